import Derived.Test.Qxb6608800aRows
import Derived.WalkKit
import Derived.WalkSpells
import Derived.RegionTactic
import Derived.Outline
import Derived.RowKit3
import Derived.OpenShut
import Derived.Laws.Tables
namespace Go.Proofs.Qxb6608800a
open Go.RowKit

theorem grown_trans {a b c : World} (h : Grown a b) (k : Grown b c) : Grown a c :=
  ⟨World.keptBut_trans h.1 (World.keptBut_mono (fun _ f => f.elim) k.1), fun x => (k.2.1 x).trans (h.2.1 x), Nat.le_trans h.2.2 k.2.2⟩

/-- A struct literal, of a type whose zero value is long: its run as one fact. -/
theorem wpList_build_as {P : Program} {ops : Array Oper} {rest : List Oper} {o : Oper} {a : Act} {w : World} {Q : Exit → Act → World → Prop} (hg : o.guard = none) (t : TypeId) (parts : Array (Nat × Operand)) (ho : o.op = .build t parts)
    (cells : Array Value) (hrun : (Instr.build t (parts.map fun (i, x) => (i, a.eval x))).run P w = .ok (.agg cells) w)
    (h : wpList P ops Q rest (a.put o.dst (.agg cells)) w) : wpList P ops Q (o :: rest) a w := by
  refine wpList_plain hg fun K hK => ?_
  unfold Oper.wp execOp
  simp only [ho, Sem.run_bind, hrun, Result.andThen_ok]
  exact hK _ _ h

/-- The cells of '&tally{weight: t}'. -/
def tallyCells (t : Int) : Array Value :=
  (#[.int .u64 0] ++ Array.replicate 64 (.int .u8 0)) ++ #[.slice none 0 0, .int .u64 t]
theorem build57 (t : Int) (w : World) : (Instr.build 57 #[(2, .int .u64 t)]).run Try.prog w = .ok (.agg (tallyCells t)) w := by kernel_rfl
theorem tally66 (t : Int) : (tallyCells t)[66]? = some (.int .u64 t) := by rfl

/-- What 'reaches' answers, at a weight p + t below 2^64 of which 'ad' was added last. -/
def reachB (p t ad th : Int) : Bool := decide (th ≤ t + p) && decide (t + p - ad < th)

set_option maxHeartbeats 400000 in
theorem reaches15 (bs bt : Nat) (p t ad th : Int) (w : World) (hp : 0 ≤ p) (ht : 0 ≤ t) (hs : t + p ≤ 18446744073709551615) (ha : 0 ≤ ad) (hd : ad ≤ t + p)
    (c1 : w.cell? ⟨bt, 66, none⟩ = some (.int .u64 t)) (c2 : w.cell? ⟨bs, 2, none⟩ = some (.int .u64 p)) :
    Calls Try.prog 15 #[.pointer (some ⟨bs, 0, none⟩), .pointer (some ⟨bt, 0, none⟩), .int .u64 ad, .int .u64 th] w fun e w' => e = .returned (.bool (reachB p t ad th)) ∧ Grown w w' := by
  by_cases h1 : th ≤ t + p
  · have e1 : reachB p t ad th = decide (t + p - ad < th) := by simp [reachB, h1]
    rw [e1]
    go_enter Try.func15, Try.ntmps15
    go_wp2
    go_region
    go_wp2
    go_ret
    exact ⟨rfl, Grown.drew (Grown.refl _)⟩
  · have e1 : reachB p t ad th = false := by simp [reachB, h1]
    rw [e1]
    go_enter Try.func15, Try.ntmps15
    go_wp2
    go_region
    go_wp2
    go_ret
    exact ⟨rfl, Grown.drew (Grown.refl _)⟩

set_option maxRecDepth 100000 in
set_option maxHeartbeats 400000 in
theorem reaches_any (p t ad th : Int) (w : World) (hp : 0 ≤ p) (ht : 0 ≤ t) (hs : t + p ≤ 18446744073709551615) (ha : 0 ≤ ad) (hd : ad ≤ t + p) :
    Calls Try.prog 9 #[.int .u64 p, .int .u64 t, .int .u64 ad, .int .u64 th] w fun e w' => e = .returned (.bool (reachB p t ad th)) ∧ Grown w w' := by
  have h66 := tally66 t
  go_enter Try.func9, Try.ntmps9
  go_wp2_with (refine wpList_build_as rfl 57 _ rfl (tallyCells t) ?_ ?_; (· simp only [List.map_toArray, List.map_cons, List.map_nil]; exact build57 t _))
  refine (reaches15 _ _ p t ad th _ hp ht hs ha hd ?_ ?_).mono ?_
  · simp [go_sem, h66]
  · simp [go_sem]
  rintro e w' ⟨rfl, hg⟩
  go_wp2
  go_ret
  exact ⟨rfl, grown_trans (((Grown.refl _).alloc _ _).alloc _ _ |>.alloc _ _) hg⟩

/-- The same, the answer named. -/
theorem reaches_as (b : Bool) (p t ad th : Int) (w : World) (hp : 0 ≤ p) (ht : 0 ≤ t) (hs : t + p ≤ 18446744073709551615) (ha : 0 ≤ ad) (hd : ad ≤ t + p) (hb : reachB p t ad th = b) :
    Calls Try.prog 9 #[.int .u64 p, .int .u64 t, .int .u64 ad, .int .u64 th] w fun e w' => e = .returned (.bool b) ∧ Grown w w' := by
  subst hb; exact reaches_any p t ad th w hp ht hs ha hd
theorem reach_yes {p t ad th : Int} (h1 : th ≤ t + p) (h2 : t + p - ad < th) : reachB p t ad th = true := by simp [reachB, h1, h2]
theorem reach_low {p t ad th : Int} (h1 : t + p < th) : reachB p t ad th = false := by simp [reachB]; omega
theorem reach_old {p t ad th : Int} (h2 : th ≤ t + p - ad) : reachB p t ad th = false := by simp [reachB]; omega
end Go.Proofs.Qxb6608800a
