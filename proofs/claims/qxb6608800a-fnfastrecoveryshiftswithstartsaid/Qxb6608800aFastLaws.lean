import Derived.Test.Qxb6608800aFast
namespace Go.Proofs.Qxb6608800a
open Go.RowKit

/-- The jitter u serves the seeds x1, x2. -/
def ZZ (x1 x2 u : Int) : Prop := ∀ (start k : Int) (w : World), 0 ≤ start → start ≤ 9223372036854775807 → 0 ≤ k → k ≤ 18446744073709551615 →
  Calls Try.prog 13 #[.int .i64 start, .int .u64 k, .int .u64 x1, .int .u64 x2] w fun e w' => e = .returned (.tuple #[.int .i64 (atV start k u), .bool (okV start k u)]) ∧ Below w.heap.size w w'
theorem ZZ.as {x1 x2 u : Int} (h : ZZ x1 x2 u) (start k A : Int) (B : Bool) (w : World) (s0 : 0 ≤ start) (s1 : start ≤ 9223372036854775807) (k0 : 0 ≤ k) (k1 : k ≤ 18446744073709551615) (hv : okV start k u = B ∧ atV start k u = A) :
    Calls Try.prog 13 #[.int .i64 start, .int .u64 k, .int .u64 x1, .int .u64 x2] w fun e w' => e = .returned (.tuple #[.int .i64 A, .bool B]) ∧ Below w.heap.size w w' := by
  obtain ⟨rfl, rfl⟩ := hv
  exact h start k w s0 s1 k0 k1
theorem win_as (start k u A : Int) (B : Bool) (w : World) (s0 : 0 ≤ start) (s1 : start ≤ 9223372036854775807) (k0 : 0 ≤ k) (k1 : k ≤ 18446744073709551615) (u0 : 0 ≤ u) (u1 : u ≤ 300000000000) (hv : okV start k u = B ∧ atV start k u = A) :
    Calls Try.prog 14 #[.int .i64 start, .int .u64 k, .int .i64 A, .bool B] w fun e w' => e = .returned (.bool true) ∧ w = w' := by
  obtain ⟨rfl, rfl⟩ := hv
  exact win14 start k u w s0 s1 k0 k1 u0 u1
theorem zz_some (x1 x2 : Int) (a0 : 0 ≤ x1) (a1 : x1 ≤ 18446744073709551615) (b0 : 0 ≤ x2) (b1 : x2 ≤ 18446744073709551615) : ∃ u : Int, 0 ≤ u ∧ u ≤ 300000000000 ∧ ZZ x1 x2 u := zz13 x1 x2 a0 a1 b0 b1
end Go.Proofs.Qxb6608800a
