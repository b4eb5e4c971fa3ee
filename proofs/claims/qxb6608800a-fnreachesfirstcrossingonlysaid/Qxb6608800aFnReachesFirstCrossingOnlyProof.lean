/- The proof of 'Rows.FnReachesFirstCrossingOnlySaid': the frame after the guide's tool (proof-skeleton, its frame for slices), the walk in Qxb6608800aFirst.lean. -/
import Derived.Test.Qxb6608800aRows
import Derived.Test.Qxb6608800aFirst
import Derived.WalkKit
import Derived.ProofKit
import Derived.OpenShut
import Derived.ShutString
import Derived.ChangeOld
import Derived.Below
import Derived.Deep.Grids
namespace Go.Proofs.Qxb6608800a.fnReachesFirstCrossingOnly
open Go.ChangeShapes Go.WideShapes Go.ChangeAt Go.RowKit

theorem own : ownKnob Try.prog.godebug = none := by kernel_rfl
theorem laidOut : laidOutB Try.prog = true := by kernel_rfl

/-- A slice of bools, its cells at a plain address: where there is a cell at all. -/
theorem bools_at {w : World} {a : Addr} {n : Nat} {B : Nat → Bool} (h : ∀ i, i < n → w.cell? (a.add i) = some (.bool (B i))) (hp : 0 < n) :
    ∃ b off, a = ⟨b, off, none⟩ ∧ ∀ j, j < n → w.cell? ⟨b, off + j, none⟩ = some (.bool (B j)) := by
  obtain ⟨b, off, spot⟩ := a
  have hspot : spot = none := by simpa [Addr.add] using World.cell?_spot (h 0 hp)
  subst hspot
  exact ⟨b, off, rfl, fun j hj => by rw [← Go.WideShapes.add_plain]; exact h j hj⟩

/-- What the walk is told of a slice: it is empty; or it leads to cells at a plain address. -/
def Leads (w : World) (v : Option Addr) (n : Nat) (V : Nat → Value) : Prop := n = 0 ∨ ∃ b off, v = some ⟨b, off, none⟩ ∧ ∀ i, i < n → w.cell? ⟨b, off + i, none⟩ = some (V i)

theorem walk (a0 a1 a4 : Int) (v2 : Option Addr) (len2 cap2 : Nat) (Z : Nat → Int) (v3 : Option Addr) (len3 cap3 : Nat) (B : Nat → Bool) (w : World)
    (w0 : (Lit.int .u64 a0).wf = true) (w1 : (Lit.int .u64 a1).wf = true) (w4 : (Lit.int .u64 a4).wf = true)
    (m2 : len2 ≤ maxLen) (m3 : len3 ≤ maxLen)
    (h2 : Leads w v2 len2 fun i => .int .u64 (Z i)) (hz : ∀ i, i < len2 → 0 ≤ Z i ∧ Z i ≤ 18446744073709551615) (h3 : Leads w v3 len3 fun i => .bool (B i)) :
    Calls Try.prog 3 #[.int .u64 a0, .int .u64 a1, .slice v2 len2 cap2, .slice v3 len3 cap3, .int .u64 a4] w fun e w' => e = .returned (.bool true) ∧ Below w.heap.size w w' := by
  obtain ⟨l0, u0⟩ := bounds_u64 w0
  obtain ⟨l1, u1⟩ := bounds_u64 w1
  obtain ⟨l4, u4⟩ := bounds_u64 w4
  by_cases hb : 65536 < len2 ∨ 65536 < len3
  · exact cross_big a0 a1 a4 v2 len2 cap2 v3 len3 cap3 w m2 m3 hb
  · exact cross_walk a0 a1 a4 v2 len2 cap2 Z v3 len3 cap3 B w l0 l1 l4 u0 u1 u4 (by omega) (by omega) h2 hz h3

set_option maxRecDepth 100000 in
theorem lifted (os : Os) (started : os.Started) (H : Type) (enc : TypeId × Value → H) :
    ReturnsInHanded {} Try.checked os 3 .any (Rows.fnReachesFirstCrossingOnlySpec.pre6 enc Try.prog Try.f3 Rows.fnReachesFirstCrossingOnlyRow.domain false) (Rows.fnReachesFirstCrossingOnlySpec.post enc Try.prog Try.f3 false true false false) := by
  refine returnsInHanded_of_change (C := Try.checked) own started (by kernel_rfl) Try.func3
    (ChangeSpec.witness6 (enc := enc) (C := Try.checked) false ⟨#[], #[.int .u64 0, .int .u64 0, .slice none 0 0, .slice none 0 0, .int .u64 0], []⟩ 8 (by kernel_rfl) (by kernel_rfl) (by kernel_rfl) (by kernel_rfl)) ?_
  intro W base args ds gs before hval0 hW hcnd _
  have hval : ∀ (j : Nat) t v, Try.f3.params[j]? = some t → args[j]? = some v → Value.okWide Try.prog W .any base t v := hval0
  have hW' := hW
  obtain ⟨p, q, hA0, hV, rfl, hfz, hnd⟩ := hW
  have hA : DataW.TrodAll enc Try.prog W 0 (fun _ => true) true Try.f3.params.toList args.toList ds p := hA0
  rw [Try.params3] at hA hval
  obtain ⟨v0, vs0, d0, ds0, p0, q0, hargs, rfl, rfl, h0, r0⟩ := trodAll_cons hA
  obtain ⟨v1, vs1, d1, ds1, p1, q1, rfl, rfl, rfl, h1, r1⟩ := trodAll_cons r0
  obtain ⟨v2, vs2, d2, ds2, p2, q2, rfl, rfl, rfl, h2, r2⟩ := trodAll_cons r1
  obtain ⟨v3, vs3, d3, ds3, p3, q3, rfl, rfl, rfl, h3, r3⟩ := trodAll_cons r2
  obtain ⟨v4, vs4, d4, ds4, p4, q4, rfl, rfl, rfl, h4, r4⟩ := trodAll_cons r3
  obtain ⟨rfl, rfl, rfl⟩ := trodAll_nil r4
  obtain rfl : args = #[v0, v1, v2, v3, v4] := by cases args; simp_all
  obtain ⟨rfl, rfl⟩ := trodVars_none hV
  obtain ⟨a0, rfl, rfl, rfl, w0⟩ := open_int Try.underlying22 (hval 0 22 v0 rfl rfl) h0
  obtain ⟨a1, rfl, rfl, rfl, w1⟩ := open_int Try.underlying22 (hval 1 22 v1 rfl rfl) h1
  obtain ⟨a2, len2, cap2, rfl⟩ := okWide_slice Try.underlying23 (hval 2 23 v2 rfl rfl)
  have k2 := h2
  have lt2 : ∀ x ∈ p2, x.block < W.heap.size := by obtain ⟨m, hm⟩ := k2; exact DataW.trod_lt m _ _ _ hm
  obtain ⟨Z, m2, e2, hz⟩ : ∃ Z : Nat → Int, len2 ≤ maxLen ∧ (Leads W a2 len2 fun i => .int .u64 (Z i)) ∧ ∀ i, i < len2 → 0 ≤ Z i ∧ Z i ≤ 18446744073709551615 := by
    obtain ⟨fuel, hf⟩ := h2
    rcases open_ints Try.underlying23 Try.underlying22 (by kernel_rfl) hf with ⟨hcs, _⟩ | ⟨x, l, c, zs, hcs, _, hl, hm, hz, _, hcell, hwz⟩
    · simp [Value.cells] at hcs
      obtain ⟨rfl, rfl, rfl⟩ := hcs
      exact ⟨fun _ => 0, Nat.zero_le _, Or.inl rfl, fun i hi => by omega⟩
    · simp [Value.cells] at hcs
      obtain ⟨rfl, rfl, rfl⟩ := hcs
      have hz' : zs.length = cap2 := by simpa using hz
      refine ⟨fun i => zs.getD i 0, by omega, ?_, fun i hi => ?_⟩
      · by_cases hn : len2 = 0
        · exact Or.inl hn
        · obtain ⟨b, off, rfl, hc⟩ := ints_at hcell (by omega)
          exact Or.inr ⟨b, off, rfl, fun i hi => hc i (by omega)⟩
      · have hlt : i < zs.length := by omega
        have e : zs.getD i 0 = zs[i] := by simp [hlt]
        show 0 ≤ zs.getD i 0 ∧ zs.getD i 0 ≤ _
        rw [e]
        exact bounds_u64 (hwz _ (List.getElem_mem hlt))
  obtain ⟨a3, len3, cap3, rfl⟩ := okWide_slice Try.underlying24 (hval 3 24 v3 rfl rfl)
  have k3 := h3
  have lt3 : ∀ x ∈ p3, x.block < W.heap.size := by obtain ⟨m, hm⟩ := k3; exact DataW.trod_lt m _ _ _ hm
  obtain ⟨B, m3, e3⟩ : ∃ B : Nat → Bool, len3 ≤ maxLen ∧ Leads W a3 len3 fun i => .bool (B i) := by
    obtain ⟨fuel, hf⟩ := h3
    rcases Go.Deep.open_bools Try.underlying24 Try.underlying4 (by kernel_rfl) hf with ⟨hcs, _⟩ | ⟨x, l, c, B, hcs, _, hl, hm, _, hcell⟩
    · simp [Value.cells] at hcs
      obtain ⟨rfl, rfl, rfl⟩ := hcs
      exact ⟨fun _ => false, Nat.zero_le _, Or.inl rfl⟩
    · simp [Value.cells] at hcs
      obtain ⟨rfl, rfl, rfl⟩ := hcs
      refine ⟨B, by omega, ?_⟩
      by_cases hn : len3 = 0
      · exact Or.inl hn
      · obtain ⟨b, off, rfl, hc⟩ := bools_at hcell (by omega)
        exact Or.inr ⟨b, off, rfl, fun i hi => hc i (by omega)⟩
  obtain ⟨a4, rfl, rfl, rfl, w4⟩ := open_int Try.underlying22 (hval 4 22 v4 rfl rfl) h4
  clear hA0 hval0
  refine (walk a0 a1 a4 a2 len2 cap2 Z a3 len3 cap3 B W w0 w1 w4 m2 m3 e2 hz e3).mono fun e W' ⟨he, bel⟩ => ?_
  subst he
  exact ⟨_, rfl, _, _, _, [], _, [], hW', trodAll_mk1 (shut_bool Try.underlying4 _), (trodAll_cons_mk (shut_int Try.underlying22 w0) (trodAll_cons_mk (shut_int Try.underlying22 w1) (trodAll_cons_mk (Below.trod laidOut (by kernel_rfl) (of_decide_eq_true (by kernel_rfl)) k2 bel lt2) (trodAll_cons_mk (Below.trod laidOut (by kernel_rfl) (of_decide_eq_true (by kernel_rfl)) k3 bel lt3) (trodAll_cons_mk (shut_int Try.underlying22 w4) trodAll_mk0))))), rfl, bel.frame _, fun h => by cases h⟩

theorem over : Rows.fnReachesFirstCrossingOnlyRow.holds Try.pinned (OpenSpec.ofChange Rows.fnReachesFirstCrossingOnlySpec) :=
  OpenClaim.holds_of_wide 3 Try.f3 rfl rfl rfl rfl rfl rfl rfl ⟨rfl, rfl, rfl, rfl, rfl⟩ rfl rfl rfl rfl rfl (by kernel_rfl) Try.func3 (by kernel_rfl)
    (of_decide_eq_true (by kernel_rfl)) (by unfold Func.isWrapper; first | (rw [if_pos (by decide +kernel)]; kernel_rfl) | (rw [if_neg (by decide +kernel)]; exact ⟨rfl, rfl⟩))
    (fun os started H enc _ => lifted os started H enc)

/-- THE STATEMENT -/
theorem proved : Rows.FnReachesFirstCrossingOnlySaid := over
end Go.Proofs.Qxb6608800a.fnReachesFirstCrossingOnly
