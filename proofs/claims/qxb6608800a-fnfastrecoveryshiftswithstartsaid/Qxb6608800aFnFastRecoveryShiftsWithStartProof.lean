/- The proof of 'Rows.FnFastRecoveryShiftsWithStartSaid': the frame by the guide's tool (proof-skeleton), the end of the row's step as in its frame for slices ('Below'), the walk by hand. -/
import Derived.Test.Qxb6608800aRows
import Derived.Test.Qxb6608800aFastLaws
import Derived.WalkKit
import Derived.ProofKit
import Derived.OpenShut
import Derived.ShutString
namespace Go.Proofs.Qxb6608800a.fnFastRecoveryShiftsWithStart
open Go.ChangeShapes Go.WideShapes Go.ChangeAt Go.RowKit
open Go.ChangeMaps (open_string shut_string)
set_option linter.unusedVariables false      -- a walk need not use every 'w<i>' (that an integer argument fits its kind)

theorem own : ownKnob Try.prog.godebug = none := by kernel_rfl

/-! ### THE WALK -/
set_option maxRecDepth 100000 in
set_option maxHeartbeats 4000000 in
theorem walk (a0 : Int) (a1 : Int) (a2 : Int) (a3 : Int) (a4 : Int) (w0 : (Lit.int .i64 a0).wf = true) (w1 : (Lit.int .i64 a1).wf = true) (w2 : (Lit.int .u64 a2).wf = true) (w3 : (Lit.int .u64 a3).wf = true) (w4 : (Lit.int .u64 a4).wf = true) (w : World) :
    Calls Try.prog 7 #[.int .i64 a0, .int .i64 a1, .int .u64 a2, .int .u64 a3, .int .u64 a4] w fun e w' => e = .returned (.bool true) ∧ Below w.heap.size w w' := by
  obtain ⟨l0, m0⟩ := bounds_i64 w0
  obtain ⟨l1, m1⟩ := bounds_i64 w1
  obtain ⟨l2, m2⟩ := bounds_u64 w2
  obtain ⟨l3, m3⟩ := bounds_u64 w3
  obtain ⟨l4, m4⟩ := bounds_u64 w4
  by_cases n0 : a0 < 0
  · go_enter Try.func7, Try.ntmps7
    go_wp2
    go_ret
    exact ⟨rfl, Below.refl _ _⟩
  by_cases n1 : a1 < 0
  · go_enter Try.func7, Try.ntmps7
    go_wp2
    go_ret
    exact ⟨rfl, Below.refl _ _⟩
  by_cases n2 : 9223372036854775807 - a1 < a0
  · go_enter Try.func7, Try.ntmps7
    go_wp2
    go_ret
    exact ⟨rfl, Below.refl _ _⟩
  obtain ⟨u, u0, u1, hz⟩ := zz_some a3 a4 l3 m3 l4 m4
  have HZ : Hid (ZZ a3 a4 u) := hz
  clear hz
  by_cases c0 : 30744573 < a2 ∨ 9223372036854775807 < a0 + a2 * 300000000000 + u
  · have V0 : Hid (okV a0 a2 u = false ∧ atV a0 a2 u = 0) := okV_no c0
    have V1 : Hid (okV (a0 + a1) a2 u = false ∧ atV (a0 + a1) a2 u = 0) := okV_no (by omega)
    clear c0
    go_enter Try.func7, Try.ntmps7
    go_wp2_with fail
    refine (ZZ.as HZ.out a0 a2 (0) false _ (by omega) (by omega) (by omega) (by omega) V0.out).mono ?_
    rintro e x1 ⟨rfl, bb1⟩
    have HB1 : Hid (Below w.heap.size w x1) := bb1
    clear bb1
    go_wp2_with fail
    refine (ZZ.as HZ.out (a0 + a1) a2 (0) false _ (by omega) (by omega) (by omega) (by omega) V1.out).mono ?_
    rintro e x2 ⟨rfl, bb2⟩
    have HB2 : Hid (Below w.heap.size w x2) := HB1.out.trans (bb2.mono HB1.out.size)
    clear bb2 HB1
    go_wp2_with fail
    refine (win_as a0 a2 u (0) false _ (by omega) (by omega) (by omega) (by omega) u0 u1 V0.out).mono ?_
    rintro e x3 ⟨rfl, rfl⟩
    go_wp2_with fail
    refine (win_as (a0 + a1) a2 u (0) false _ (by omega) (by omega) (by omega) (by omega) u0 u1 V1.out).mono ?_
    rintro e x4 ⟨rfl, rfl⟩
    go_wp2
    go_ret
    exact ⟨rfl, HB2.out⟩
  by_cases c1 : 9223372036854775807 < a0 + a1 + a2 * 300000000000 + u
  · have V0 : Hid (okV a0 a2 u = true ∧ atV a0 a2 u = a0 + a2 * 300000000000 + u) := okV_yes (by omega) (by omega)
    have V1 : Hid (okV (a0 + a1) a2 u = false ∧ atV (a0 + a1) a2 u = 0) := okV_no (Or.inr c1)
    have d1 : decide (a0 + a2 * 300000000000 + u ≤ 9223372036854775807 - a1) = false := by simp; omega
    go_enter Try.func7, Try.ntmps7
    go_wp2_with fail
    refine (ZZ.as HZ.out a0 a2 (a0 + a2 * 300000000000 + u) true _ (by omega) (by omega) (by omega) (by omega) V0.out).mono ?_
    rintro e x1 ⟨rfl, bb1⟩
    have HB1 : Hid (Below w.heap.size w x1) := bb1
    clear bb1
    go_wp2_with fail
    refine (ZZ.as HZ.out (a0 + a1) a2 (0) false _ (by omega) (by omega) (by omega) (by omega) V1.out).mono ?_
    rintro e x2 ⟨rfl, bb2⟩
    have HB2 : Hid (Below w.heap.size w x2) := HB1.out.trans (bb2.mono HB1.out.size)
    clear bb2 HB1
    go_wp2_with fail
    refine (win_as a0 a2 u (a0 + a2 * 300000000000 + u) true _ (by omega) (by omega) (by omega) (by omega) u0 u1 V0.out).mono ?_
    rintro e x3 ⟨rfl, rfl⟩
    go_wp2_with fail
    refine (win_as (a0 + a1) a2 u (0) false _ (by omega) (by omega) (by omega) (by omega) u0 u1 V1.out).mono ?_
    rintro e x4 ⟨rfl, rfl⟩
    go_wp2
    go_ret
    exact ⟨rfl, HB2.out⟩
  · have V0 : Hid (okV a0 a2 u = true ∧ atV a0 a2 u = a0 + a2 * 300000000000 + u) := okV_yes (by omega) (by omega)
    have V1 : Hid (okV (a0 + a1) a2 u = true ∧ atV (a0 + a1) a2 u = a0 + a1 + a2 * 300000000000 + u) := okV_yes (by omega) (by omega)
    have d1 : decide (a0 + a2 * 300000000000 + u ≤ 9223372036854775807 - a1) = true := by simp; omega
    have d2 : (a0 + a1 + a2 * 300000000000 + u == a0 + a2 * 300000000000 + u + a1) = true := beq_iff_eq.2 (by omega)
    go_enter Try.func7, Try.ntmps7
    go_wp2_with fail
    refine (ZZ.as HZ.out a0 a2 (a0 + a2 * 300000000000 + u) true _ (by omega) (by omega) (by omega) (by omega) V0.out).mono ?_
    rintro e x1 ⟨rfl, bb1⟩
    have HB1 : Hid (Below w.heap.size w x1) := bb1
    clear bb1
    go_wp2_with fail
    refine (ZZ.as HZ.out (a0 + a1) a2 (a0 + a1 + a2 * 300000000000 + u) true _ (by omega) (by omega) (by omega) (by omega) V1.out).mono ?_
    rintro e x2 ⟨rfl, bb2⟩
    have HB2 : Hid (Below w.heap.size w x2) := HB1.out.trans (bb2.mono HB1.out.size)
    clear bb2 HB1
    go_wp2_with fail
    refine (win_as a0 a2 u (a0 + a2 * 300000000000 + u) true _ (by omega) (by omega) (by omega) (by omega) u0 u1 V0.out).mono ?_
    rintro e x3 ⟨rfl, rfl⟩
    go_wp2_with fail
    refine (win_as (a0 + a1) a2 u (a0 + a1 + a2 * 300000000000 + u) true _ (by omega) (by omega) (by omega) (by omega) u0 u1 V1.out).mono ?_
    rintro e x4 ⟨rfl, rfl⟩
    go_wp2
    go_ret
    exact ⟨rfl, HB2.out⟩

/-! ### THE ROW's STEP: WRITTEN OUT: LEAVE IT -/
set_option maxRecDepth 100000 in
theorem lifted (os : Os) (started : os.Started) (H : Type) (enc : TypeId × Value → H) :
    ReturnsInHanded {} Try.checked os 7 .any (Rows.fnFastRecoveryShiftsWithStartSpec.pre6 enc Try.prog Try.f7 Rows.fnFastRecoveryShiftsWithStartRow.domain false) (Rows.fnFastRecoveryShiftsWithStartSpec.post enc Try.prog Try.f7 false true false false) := by
  refine returnsInHanded_of_change (C := Try.checked) own started (by kernel_rfl) Try.func7
    (ChangeSpec.witness6 (enc := enc) (C := Try.checked) false ⟨#[], #[.int .i64 0, .int .i64 0, .int .u64 0, .int .u64 0, .int .u64 0], []⟩ 8 (by kernel_rfl) (by kernel_rfl) (by kernel_rfl) (by kernel_rfl)) ?_
  intro W base args ds gs before hval0 hW hcnd _
  have hval : ∀ (j : Nat) t v, Try.f7.params[j]? = some t → args[j]? = some v → Value.okWide Try.prog W .any base t v := hval0
  have hW' := hW
  obtain ⟨p, q, hA0, hV, rfl, hfz, hnd⟩ := hW
  have hA : DataW.TrodAll enc Try.prog W 0 (fun _ => true) true Try.f7.params.toList args.toList ds p := hA0
  rw [Try.params7] at hA hval
  obtain ⟨v0, vs0, d0, ds0, p0, q0, hargs, rfl, rfl, h0, r0⟩ := trodAll_cons hA
  obtain ⟨v1, vs1, d1, ds1, p1, q1, rfl, rfl, rfl, h1, r1⟩ := trodAll_cons r0
  obtain ⟨v2, vs2, d2, ds2, p2, q2, rfl, rfl, rfl, h2, r2⟩ := trodAll_cons r1
  obtain ⟨v3, vs3, d3, ds3, p3, q3, rfl, rfl, rfl, h3, r3⟩ := trodAll_cons r2
  obtain ⟨v4, vs4, d4, ds4, p4, q4, rfl, rfl, rfl, h4, r4⟩ := trodAll_cons r3
  obtain ⟨rfl, rfl, rfl⟩ := trodAll_nil r4
  obtain rfl : args = #[v0, v1, v2, v3, v4] := by cases args; simp_all
  obtain ⟨rfl, rfl⟩ := trodVars_none hV
  obtain ⟨a0, rfl, rfl, rfl, w0⟩ := open_int Try.underlying2 (hval 0 2 v0 rfl rfl) h0
  obtain ⟨a1, rfl, rfl, rfl, w1⟩ := open_int Try.underlying2 (hval 1 2 v1 rfl rfl) h1
  obtain ⟨a2, rfl, rfl, rfl, w2⟩ := open_int Try.underlying22 (hval 2 22 v2 rfl rfl) h2
  obtain ⟨a3, rfl, rfl, rfl, w3⟩ := open_int Try.underlying22 (hval 3 22 v3 rfl rfl) h3
  obtain ⟨a4, rfl, rfl, rfl, w4⟩ := open_int Try.underlying22 (hval 4 22 v4 rfl rfl) h4
  clear hA0 hval0
  simp only [List.append_nil] at hW'
  refine (walk a0 a1 a2 a3 a4 w0 w1 w2 w3 w4 W).mono fun e W' ⟨he, bel⟩ => ?_
  subst he
  exact ⟨_, rfl, _, _, _, [], [], [], hW', trodAll_mk1 (shut_bool Try.underlying4 _), (trodAll_cons_mk (shut_int Try.underlying2 w0) (trodAll_cons_mk (shut_int Try.underlying2 w1) (trodAll_cons_mk (shut_int Try.underlying22 w2) (trodAll_cons_mk (shut_int Try.underlying22 w3) (trodAll_cons_mk (shut_int Try.underlying22 w4) trodAll_mk0))))), rfl, bel.frame _, fun h => by cases h⟩

theorem over : Rows.fnFastRecoveryShiftsWithStartRow.holds Try.pinned (OpenSpec.ofChange Rows.fnFastRecoveryShiftsWithStartSpec) :=
  OpenClaim.holds_of_wide 7 Try.f7 rfl rfl rfl rfl rfl rfl rfl ⟨rfl, rfl, rfl, rfl, rfl⟩ rfl rfl rfl rfl rfl (by kernel_rfl) Try.func7 (by kernel_rfl)
    (of_decide_eq_true (by kernel_rfl)) (by unfold Func.isWrapper; first | (rw [if_pos (by decide +kernel)]; kernel_rfl) | (rw [if_neg (by decide +kernel)]; exact ⟨rfl, rfl⟩))
    (fun os started H enc _ => lifted os started H enc)

/-- ████ THE STATEMENT ████ -/
theorem proved : Rows.FnFastRecoveryShiftsWithStartSaid :=
  over
end Go.Proofs.Qxb6608800a.fnFastRecoveryShiftsWithStart
