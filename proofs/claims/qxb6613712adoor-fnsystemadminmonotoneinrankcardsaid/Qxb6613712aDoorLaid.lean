import Derived.Test.Qxb6613712aDoorSys
import Derived.ProofKit
import Derived.LaidMore
import Derived.OpenShut
import Derived.ShutString
import Derived.OpenVars
import Derived.Stop.Joined
import Derived.MakeChecks
namespace Go.Proofs.Qxb6613712aDoor
open Go.ChangeShapes Go.WideShapes Go.ChangeAt Go.WideMaps Go.WideElems Go.RowKit

/-! ### What the condition 'laid' gives the walks -/
abbrev laid1 : List (String × DataW Unit) := Rows.fnIsRoleRanksDistinctAndTotalRow.laid
/-- The name of the map, as the given rows have it. -/
abbrev ranksName : String := Rows.fnIsRoleRanksDistinctAndTotalSpec.vars.headD "none"
theorem own : ownKnob Tryd.prog.godebug = none := by kernel_rfl
theorem laidOut : laidOutB Tryd.prog = true := by kernel_rfl
theorem gRanks : Tryd.prog.globalNamed ranksName = some 0 := by kernel_rfl
theorem tRanks : (Tryd.prog.globals[0]?).map (·.type) = some 26 := by kernel_rfl
theorem law : KeyLaw Tryd.prog 9 := string_law Tryd.underlying9

/-- The door's own heap meets the condition. -/
theorem door_met (os : Os) (args : Array Value) : laidMetH Tryd.prog laid1 ((World.doorLaid Tryd.prog 400 os).forCall (fun _ _ => 0) ⟨#[], args, []⟩).memory :=
  laidMetH_of_parts3 (fuel := 8) (laidMet_of_run' 8 (by kernel_rfl) (by kernel_rfl)) (by kernel_rfl) (by kernel_rfl)

theorem at_key (l : List UInt8) (z : DataW Unit) : (Rows.laid_example_com_gorse_gorse_account_ranks (H := Unit)).atKey (.string l) z = if rkL l = 0 then z else .lit (.int .i64 (rkL l)) := by
  unfold Rows.laid_example_com_gorse_gorse_account_ranks DataW.atKey rkL
  by_cases h1 : l = adminL
  · subst h1; rfl
  by_cases h2 : l = memberL
  · subst h2; rfl
  by_cases h3 : l = ownerL
  · subst h3; rfl
  have e1 : (Lit.string [97, 100, 109, 105, 110]).sameKey (.string l) = false := beq_eq_false_iff_ne.2 (fun e => h1 e.symm)
  have e2 : (Lit.string [109, 101, 109, 98, 101, 114]).sameKey (.string l) = false := beq_eq_false_iff_ne.2 (fun e => h2 e.symm)
  have e3 : (Lit.string [111, 119, 110, 101, 114]).sameKey (.string l) = false := beq_eq_false_iff_ne.2 (fun e => h3 e.symm)
  rw [if_neg h1, if_neg h2, if_neg h3, if_pos rfl]
  simp only [List.find?, e1, e2, e3]

theorem of_laid {W : World} (h : laidMetH Tryd.prog laid1 W) : ∃ bm, W.cell? ⟨0, 0, none⟩ = some (.map (some bm)) ∧ ∀ s : ByteArray, s.size ≤ maxLen → LooksUp bm W s := by
  rw [MakeChecks.laidMetH_plain _ _ _ (by kernel_rfl)] at h
  obtain ⟨ps, ⟨g0, t0, cs0, f0, p0, q0, hg0, ht0, hv0, hd0, _, _⟩, _, _⟩ := h
  obtain rfl := Option.some.inj (gRanks.symm.trans hg0)
  obtain rfl := Option.some.inj (tRanks.symm.trans ht0)
  have zero : (zeroValue 3).run Tryd.prog W = .ok (.int .i64 0) W := by kernel_rfl
  rcases open_map Tryd.underlying26 hd0 with ⟨_, hx⟩ | ⟨bm, es, clock, m, rfl, hcs, hb, _, F, hx⟩
  · simp [Rows.laid_example_com_gorse_gorse_account_ranks] at hx
  simp only [Prod.mk.injEq] at hx
  have hcell : W.cell? ⟨0, 0, none⟩ = some (.map (some bm)) := by
    have := World.var?_cell hg0 hv0 0
    rw [Array.eq_one_of_toList hcs] at this
    simpa using this
  refine ⟨bm, hcell, fun s hs => ?_⟩
  unfold LooksUp rk
  rw [ByteArray.toList_eq]
  rcases fit_lookup (w := W) law Tryd.underlying26 zero hb F (keyOf_string_mk (s := s) Tryd.underlying9 hs) with ⟨hrun, hat⟩ | ⟨v, y, hrun, hRv, hat, _⟩
  · have := hat .nil
    rw [← hx.1, at_key] at this
    by_cases h0 : rkL s.data.toList = 0
    · rw [h0]; exact hrun
    · rw [if_neg h0] at this; cases this
  · obtain ⟨r, rfl, rfl, _⟩ := elemAt_int Tryd.underlying3 hRv
    have := hat .nil
    rw [← hx.1, at_key] at this
    by_cases h0 : rkL s.data.toList = 0
    · rw [if_pos h0] at this; cases this
    · rw [if_neg h0] at this
      have e : rkL s.data.toList = r := by
        injection this with e1
        injection e1
      rw [e]; exact hrun
end Go.Proofs.Qxb6613712aDoor
