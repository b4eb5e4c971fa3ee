import Derived.Test.Qxb6608800aReach
import Derived.LoopTactic
import Derived.Deep.LoopGhost
import Derived.Deep.Cut
import Derived.Below
namespace Go.Proofs.Qxb6608800a
open Go.RowKit

/-! ### 'reaches' once more: nothing that was there turns ('Below') -/
set_option maxHeartbeats 400000 in
theorem reaches15b (bs bt : Nat) (p t ad th : Int) (w : World) (hp : 0 ≤ p) (ht : 0 ≤ t) (hs : t + p ≤ 18446744073709551615) (ha : 0 ≤ ad) (hd : ad ≤ t + p)
    (c1 : w.cell? ⟨bt, 66, none⟩ = some (.int .u64 t)) (c2 : w.cell? ⟨bs, 2, none⟩ = some (.int .u64 p)) :
    Calls Try.prog 15 #[.pointer (some ⟨bs, 0, none⟩), .pointer (some ⟨bt, 0, none⟩), .int .u64 ad, .int .u64 th] w fun e w' => e = .returned (.bool (reachB p t ad th)) ∧ Below w.heap.size w w' := by
  by_cases h1 : th ≤ t + p
  · have e1 : reachB p t ad th = decide (t + p - ad < th) := by simp [reachB, h1]
    rw [e1]
    go_enter Try.func15, Try.ntmps15
    go_wp2
    go_region
    go_wp2
    go_ret
    exact ⟨rfl, Below.drew (Below.refl _ _)⟩
  · have e1 : reachB p t ad th = false := by simp [reachB, h1]
    rw [e1]
    go_enter Try.func15, Try.ntmps15
    go_wp2
    go_region
    go_wp2
    go_ret
    exact ⟨rfl, Below.drew (Below.refl _ _)⟩

set_option maxRecDepth 100000 in
set_option maxHeartbeats 400000 in
theorem reaches_below (b : Bool) (p t ad th : Int) (w : World) (hp : 0 ≤ p) (ht : 0 ≤ t) (hs : t + p ≤ 18446744073709551615) (ha : 0 ≤ ad) (hd : ad ≤ t + p) (hb : reachB p t ad th = b) :
    Calls Try.prog 9 #[.int .u64 p, .int .u64 t, .int .u64 ad, .int .u64 th] w fun e w' => e = .returned (.bool b) ∧ Below w.heap.size w w' := by
  subst hb
  have h66 := tally66 t
  go_enter Try.func9, Try.ntmps9
  go_wp2_with (refine wpList_build_as rfl 57 _ rfl (tallyCells t) ?_ ?_; (· simp only [List.map_toArray, List.map_cons, List.map_nil]; exact build57 t _))
  refine (reaches15b _ _ p t ad th _ hp ht hs ha hd ?_ ?_).mono ?_
  · simp [go_sem, h66]
  · simp [go_sem]
  rintro e w' ⟨rfl, hg⟩
  go_wp2
  go_ret
  exact ⟨rfl, ((((Below.refl _ _).alloc (Nat.le_refl _) _).alloc (by simp) _).alloc (by simp; omega) _).trans (hg.mono (by simp; omega))⟩

/-! ### The bound on lengths -/
def bytesB (l m : Nat) : Bool := decide (l ≤ 1048576) && decide (l + m ≤ 1048576)
set_option maxHeartbeats 400000 in
theorem bytes8 (x0 x1 x4 : Int) (a b : Option Addr) (l c m d : Nat) (w : World) (hl : l ≤ maxLen) (hm : m ≤ maxLen) :
    Calls Try.prog 8 #[.int .u64 x0, .int .u64 x1, .slice a l c, .slice b m d, .int .u64 x4] w fun e w' => e = .returned (.bool (bytesB l m)) ∧ w' = w := by
  unfold maxLen at hl hm
  by_cases h1 : l ≤ 1048576
  · by_cases h2 : l + m ≤ 1048576
    · have e : bytesB l m = true := by simp [bytesB, h1, h2]
      rw [e]
      go_enter Try.func8, Try.ntmps8
      go_wp2
      go_ret
      exact ⟨rfl, rfl⟩
    · have e : bytesB l m = false := by simp [bytesB, h2]
      rw [e]
      go_enter Try.func8, Try.ntmps8
      go_wp2
      all_goals
        go_ret
        exact ⟨rfl, rfl⟩
  · have e : bytesB l m = false := by simp [bytesB, h1]
    rw [e]
    go_enter Try.func8, Try.ntmps8
    go_wp2
    go_ret
    exact ⟨rfl, rfl⟩
end Go.Proofs.Qxb6608800a
