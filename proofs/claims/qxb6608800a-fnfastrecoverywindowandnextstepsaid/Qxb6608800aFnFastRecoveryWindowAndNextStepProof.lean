/- The proof of 'Rows.FnFastRecoveryWindowAndNextStepSaid': the frame by the guide's tool (proof-skeleton), the end of the row's step as in its frame for slices ('Below'), the walk by hand. -/
import Derived.Test.Qxb6608800aRows
import Derived.Test.Qxb6608800aFastLaws
import Derived.WalkKit
import Derived.ProofKit
import Derived.OpenShut
import Derived.ShutString
namespace Go.Proofs.Qxb6608800a.fnFastRecoveryWindowAndNextStep
open Go.ChangeShapes Go.WideShapes Go.ChangeAt Go.RowKit
open Go.ChangeMaps (open_string shut_string)
set_option linter.unusedVariables false      -- a walk need not use every 'w<i>' (that an integer argument fits its kind)

theorem own : ownKnob Try.prog.godebug = none := by kernel_rfl

/-! ### THE WALK -/
set_option maxRecDepth 100000 in
set_option maxHeartbeats 4000000 in
theorem walk (a0 : Int) (a1 : Int) (a2 : Int) (a3 : Int) (w0 : (Lit.int .i64 a0).wf = true) (w1 : (Lit.int .u64 a1).wf = true) (w2 : (Lit.int .u64 a2).wf = true) (w3 : (Lit.int .u64 a3).wf = true) (w : World) :
    Calls Try.prog 6 #[.int .i64 a0, .int .u64 a1, .int .u64 a2, .int .u64 a3] w fun e w' => e = .returned (.bool true) ∧ Below w.heap.size w w' := by
  obtain ⟨l0, m0⟩ := bounds_i64 w0
  obtain ⟨l1, m1⟩ := bounds_u64 w1
  obtain ⟨l2, m2⟩ := bounds_u64 w2
  obtain ⟨l3, m3⟩ := bounds_u64 w3
  by_cases n0 : a0 < 0
  · go_enter Try.func6, Try.ntmps6
    go_wp2
    go_ret
    exact ⟨rfl, Below.refl _ _⟩
  obtain ⟨u, u0, u1, hz⟩ := zz_some a2 a3 l2 m2 l3 m3
  have HZ : Hid (ZZ a2 a3 u) := hz
  clear hz
  by_cases c0 : 30744573 < a1 ∨ 9223372036854775807 < a0 + a1 * 300000000000 + u
  · by_cases km : 18446744073709551615 ≤ a1
    · have V0 : Hid (okV a0 a1 u = false ∧ atV a0 a1 u = 0) := okV_no c0
      have kt : (a1 == 18446744073709551615) = true := beq_iff_eq.2 (by omega)
      clear c0
      go_enter Try.func6, Try.ntmps6
      go_wp2_with fail
      refine (ZZ.as HZ.out a0 a1 (0) false _ (by omega) (by omega) (by omega) (by omega) V0.out).mono ?_
      rintro e x1 ⟨rfl, bb1⟩
      have HB1 : Hid (Below w.heap.size w x1) := bb1
      clear bb1
      go_wp2_with fail
      refine (win_as a0 a1 u (0) false _ (by omega) (by omega) (by omega) (by omega) u0 u1 V0.out).mono ?_
      rintro e x2 ⟨rfl, rfl⟩
      go_wp2
      go_ret
      exact ⟨rfl, HB1.out⟩
    · by_cases st : 9223371736854775807 < a0
      · have V0 : Hid (okV a0 a1 u = false ∧ atV a0 a1 u = 0) := okV_no c0
        have V1 : Hid (okV a0 (a1 + 1) u = false ∧ atV a0 (a1 + 1) u = 0) := okV_no (by omega)
        have kf : (a1 == 18446744073709551615) = false := beq_eq_false_iff_ne.2 (by omega)
        clear c0
        go_enter Try.func6, Try.ntmps6
        go_wp2_with fail
        refine (ZZ.as HZ.out a0 a1 (0) false _ (by omega) (by omega) (by omega) (by omega) V0.out).mono ?_
        rintro e x1 ⟨rfl, bb1⟩
        have HB1 : Hid (Below w.heap.size w x1) := bb1
        clear bb1
        go_wp2_with fail
        refine (win_as a0 a1 u (0) false _ (by omega) (by omega) (by omega) (by omega) u0 u1 V0.out).mono ?_
        rintro e x2 ⟨rfl, rfl⟩
        go_wp2_with fail
        refine (ZZ.as HZ.out a0 (a1 + 1) (0) false _ (by omega) (by omega) (by omega) (by omega) V1.out).mono ?_
        rintro e x3 ⟨rfl, bb2⟩
        have HB2 : Hid (Below w.heap.size w x3) := HB1.out.trans (bb2.mono HB1.out.size)
        clear bb2 HB1
        go_wp2
        go_ret
        exact ⟨rfl, HB2.out⟩
      · have V0 : Hid (okV a0 a1 u = false ∧ atV a0 a1 u = 0) := okV_no c0
        have V1 : Hid (okV a0 (a1 + 1) u = false ∧ atV a0 (a1 + 1) u = 0) := okV_no (by omega)
        have V2 : Hid (okV (a0 + 300000000000) a1 u = false ∧ atV (a0 + 300000000000) a1 u = 0) := okV_no (by omega)
        have kf : (a1 == 18446744073709551615) = false := beq_eq_false_iff_ne.2 (by omega)
        clear c0
        go_enter Try.func6, Try.ntmps6
        go_wp2_with fail
        refine (ZZ.as HZ.out a0 a1 (0) false _ (by omega) (by omega) (by omega) (by omega) V0.out).mono ?_
        rintro e x1 ⟨rfl, bb1⟩
        have HB1 : Hid (Below w.heap.size w x1) := bb1
        clear bb1
        go_wp2_with fail
        refine (win_as a0 a1 u (0) false _ (by omega) (by omega) (by omega) (by omega) u0 u1 V0.out).mono ?_
        rintro e x2 ⟨rfl, rfl⟩
        go_wp2_with fail
        refine (ZZ.as HZ.out a0 (a1 + 1) (0) false _ (by omega) (by omega) (by omega) (by omega) V1.out).mono ?_
        rintro e x3 ⟨rfl, bb2⟩
        have HB2 : Hid (Below w.heap.size w x3) := HB1.out.trans (bb2.mono HB1.out.size)
        clear bb2 HB1
        go_wp2_with fail
        refine (ZZ.as HZ.out (a0 + 300000000000) a1 (0) false _ (by omega) (by omega) (by omega) (by omega) V2.out).mono ?_
        rintro e x4 ⟨rfl, bb3⟩
        have HB3 : Hid (Below w.heap.size w x4) := HB2.out.trans (bb3.mono HB2.out.size)
        clear bb3 HB2
        go_wp2
        go_ret
        exact ⟨rfl, HB3.out⟩
  by_cases c1 : a0 + a1 * 300000000000 + u ≤ 9223371736854775807
  · have V0 : Hid (okV a0 a1 u = true ∧ atV a0 a1 u = a0 + a1 * 300000000000 + u) := okV_yes (by omega) (by omega)
    have V1 : Hid (okV a0 (a1 + 1) u = true ∧ atV a0 (a1 + 1) u = a0 + (a1 + 1) * 300000000000 + u) := okV_yes (by omega) (by omega)
    have V2 : Hid (okV (a0 + 300000000000) a1 u = true ∧ atV (a0 + 300000000000) a1 u = a0 + 300000000000 + a1 * 300000000000 + u) := okV_yes (by omega) (by omega)
    have kf : (a1 == 18446744073709551615) = false := beq_eq_false_iff_ne.2 (by omega)
    have d1 : decide (a0 + a1 * 300000000000 + u ≤ 9223371736854775807) = true := by simpa using c1
    have d2 : (a0 + (a1 + 1) * 300000000000 + u != a0 + a1 * 300000000000 + u + 300000000000) = false := by rw [bne_eq_false_iff_eq]; omega
    have d3 : (a0 + 300000000000 + a1 * 300000000000 + u == a0 + (a1 + 1) * 300000000000 + u) = true := beq_iff_eq.2 (by omega)
    go_enter Try.func6, Try.ntmps6
    go_wp2_with fail
    refine (ZZ.as HZ.out a0 a1 (a0 + a1 * 300000000000 + u) true _ (by omega) (by omega) (by omega) (by omega) V0.out).mono ?_
    rintro e x1 ⟨rfl, bb1⟩
    have HB1 : Hid (Below w.heap.size w x1) := bb1
    clear bb1
    go_wp2_with fail
    refine (win_as a0 a1 u (a0 + a1 * 300000000000 + u) true _ (by omega) (by omega) (by omega) (by omega) u0 u1 V0.out).mono ?_
    rintro e x2 ⟨rfl, rfl⟩
    go_wp2_with fail
    refine (ZZ.as HZ.out a0 (a1 + 1) (a0 + (a1 + 1) * 300000000000 + u) true _ (by omega) (by omega) (by omega) (by omega) V1.out).mono ?_
    rintro e x3 ⟨rfl, bb2⟩
    have HB2 : Hid (Below w.heap.size w x3) := HB1.out.trans (bb2.mono HB1.out.size)
    clear bb2 HB1
    go_wp2_with fail
    refine (ZZ.as HZ.out (a0 + 300000000000) a1 (a0 + 300000000000 + a1 * 300000000000 + u) true _ (by omega) (by omega) (by omega) (by omega) V2.out).mono ?_
    rintro e x4 ⟨rfl, bb3⟩
    have HB3 : Hid (Below w.heap.size w x4) := HB2.out.trans (bb3.mono HB2.out.size)
    clear bb3 HB2
    go_wp2
    go_ret
    exact ⟨rfl, HB3.out⟩
  · by_cases st : 9223371736854775807 < a0
    · have V0 : Hid (okV a0 a1 u = true ∧ atV a0 a1 u = a0 + a1 * 300000000000 + u) := okV_yes (by omega) (by omega)
      have V1 : Hid (okV a0 (a1 + 1) u = false ∧ atV a0 (a1 + 1) u = 0) := okV_no (by omega)
      have kf : (a1 == 18446744073709551615) = false := beq_eq_false_iff_ne.2 (by omega)
      have d1 : decide (a0 + a1 * 300000000000 + u ≤ 9223371736854775807) = false := by simpa using c1
      go_enter Try.func6, Try.ntmps6
      go_wp2_with fail
      refine (ZZ.as HZ.out a0 a1 (a0 + a1 * 300000000000 + u) true _ (by omega) (by omega) (by omega) (by omega) V0.out).mono ?_
      rintro e x1 ⟨rfl, bb1⟩
      have HB1 : Hid (Below w.heap.size w x1) := bb1
      clear bb1
      go_wp2_with fail
      refine (win_as a0 a1 u (a0 + a1 * 300000000000 + u) true _ (by omega) (by omega) (by omega) (by omega) u0 u1 V0.out).mono ?_
      rintro e x2 ⟨rfl, rfl⟩
      go_wp2_with fail
      refine (ZZ.as HZ.out a0 (a1 + 1) (0) false _ (by omega) (by omega) (by omega) (by omega) V1.out).mono ?_
      rintro e x3 ⟨rfl, bb2⟩
      have HB2 : Hid (Below w.heap.size w x3) := HB1.out.trans (bb2.mono HB1.out.size)
      clear bb2 HB1
      go_wp2
      go_ret
      exact ⟨rfl, HB2.out⟩
    · have V0 : Hid (okV a0 a1 u = true ∧ atV a0 a1 u = a0 + a1 * 300000000000 + u) := okV_yes (by omega) (by omega)
      have V1 : Hid (okV a0 (a1 + 1) u = false ∧ atV a0 (a1 + 1) u = 0) := okV_no (by omega)
      have V2 : Hid (okV (a0 + 300000000000) a1 u = false ∧ atV (a0 + 300000000000) a1 u = 0) := okV_no (by omega)
      have kf : (a1 == 18446744073709551615) = false := beq_eq_false_iff_ne.2 (by omega)
      have d1 : decide (a0 + a1 * 300000000000 + u ≤ 9223371736854775807) = false := by simpa using c1
      go_enter Try.func6, Try.ntmps6
      go_wp2_with fail
      refine (ZZ.as HZ.out a0 a1 (a0 + a1 * 300000000000 + u) true _ (by omega) (by omega) (by omega) (by omega) V0.out).mono ?_
      rintro e x1 ⟨rfl, bb1⟩
      have HB1 : Hid (Below w.heap.size w x1) := bb1
      clear bb1
      go_wp2_with fail
      refine (win_as a0 a1 u (a0 + a1 * 300000000000 + u) true _ (by omega) (by omega) (by omega) (by omega) u0 u1 V0.out).mono ?_
      rintro e x2 ⟨rfl, rfl⟩
      go_wp2_with fail
      refine (ZZ.as HZ.out a0 (a1 + 1) (0) false _ (by omega) (by omega) (by omega) (by omega) V1.out).mono ?_
      rintro e x3 ⟨rfl, bb2⟩
      have HB2 : Hid (Below w.heap.size w x3) := HB1.out.trans (bb2.mono HB1.out.size)
      clear bb2 HB1
      go_wp2_with fail
      refine (ZZ.as HZ.out (a0 + 300000000000) a1 (0) false _ (by omega) (by omega) (by omega) (by omega) V2.out).mono ?_
      rintro e x4 ⟨rfl, bb3⟩
      have HB3 : Hid (Below w.heap.size w x4) := HB2.out.trans (bb3.mono HB2.out.size)
      clear bb3 HB2
      go_wp2
      go_ret
      exact ⟨rfl, HB3.out⟩

/-! ### THE ROW's STEP: WRITTEN OUT: LEAVE IT -/
set_option maxRecDepth 100000 in
theorem lifted (os : Os) (started : os.Started) (H : Type) (enc : TypeId × Value → H) :
    ReturnsInHanded {} Try.checked os 6 .any (Rows.fnFastRecoveryWindowAndNextStepSpec.pre6 enc Try.prog Try.f6 Rows.fnFastRecoveryWindowAndNextStepRow.domain false) (Rows.fnFastRecoveryWindowAndNextStepSpec.post enc Try.prog Try.f6 false true false false) := by
  refine returnsInHanded_of_change (C := Try.checked) own started (by kernel_rfl) Try.func6
    (ChangeSpec.witness6 (enc := enc) (C := Try.checked) false ⟨#[], #[.int .i64 0, .int .u64 0, .int .u64 0, .int .u64 0], []⟩ 8 (by kernel_rfl) (by kernel_rfl) (by kernel_rfl) (by kernel_rfl)) ?_
  intro W base args ds gs before hval0 hW hcnd _
  have hval : ∀ (j : Nat) t v, Try.f6.params[j]? = some t → args[j]? = some v → Value.okWide Try.prog W .any base t v := hval0
  have hW' := hW
  obtain ⟨p, q, hA0, hV, rfl, hfz, hnd⟩ := hW
  have hA : DataW.TrodAll enc Try.prog W 0 (fun _ => true) true Try.f6.params.toList args.toList ds p := hA0
  rw [Try.params6] at hA hval
  obtain ⟨v0, vs0, d0, ds0, p0, q0, hargs, rfl, rfl, h0, r0⟩ := trodAll_cons hA
  obtain ⟨v1, vs1, d1, ds1, p1, q1, rfl, rfl, rfl, h1, r1⟩ := trodAll_cons r0
  obtain ⟨v2, vs2, d2, ds2, p2, q2, rfl, rfl, rfl, h2, r2⟩ := trodAll_cons r1
  obtain ⟨v3, vs3, d3, ds3, p3, q3, rfl, rfl, rfl, h3, r3⟩ := trodAll_cons r2
  obtain ⟨rfl, rfl, rfl⟩ := trodAll_nil r3
  obtain rfl : args = #[v0, v1, v2, v3] := by cases args; simp_all
  obtain ⟨rfl, rfl⟩ := trodVars_none hV
  obtain ⟨a0, rfl, rfl, rfl, w0⟩ := open_int Try.underlying2 (hval 0 2 v0 rfl rfl) h0
  obtain ⟨a1, rfl, rfl, rfl, w1⟩ := open_int Try.underlying22 (hval 1 22 v1 rfl rfl) h1
  obtain ⟨a2, rfl, rfl, rfl, w2⟩ := open_int Try.underlying22 (hval 2 22 v2 rfl rfl) h2
  obtain ⟨a3, rfl, rfl, rfl, w3⟩ := open_int Try.underlying22 (hval 3 22 v3 rfl rfl) h3
  clear hA0 hval0
  simp only [List.append_nil] at hW'
  refine (walk a0 a1 a2 a3 w0 w1 w2 w3 W).mono fun e W' ⟨he, bel⟩ => ?_
  subst he
  exact ⟨_, rfl, _, _, _, [], [], [], hW', trodAll_mk1 (shut_bool Try.underlying4 _), (trodAll_cons_mk (shut_int Try.underlying2 w0) (trodAll_cons_mk (shut_int Try.underlying22 w1) (trodAll_cons_mk (shut_int Try.underlying22 w2) (trodAll_cons_mk (shut_int Try.underlying22 w3) trodAll_mk0)))), rfl, bel.frame _, fun h => by cases h⟩

theorem over : Rows.fnFastRecoveryWindowAndNextStepRow.holds Try.pinned (OpenSpec.ofChange Rows.fnFastRecoveryWindowAndNextStepSpec) :=
  OpenClaim.holds_of_wide 6 Try.f6 rfl rfl rfl rfl rfl rfl rfl ⟨rfl, rfl, rfl, rfl, rfl⟩ rfl rfl rfl rfl rfl (by kernel_rfl) Try.func6 (by kernel_rfl)
    (of_decide_eq_true (by kernel_rfl)) (by unfold Func.isWrapper; first | (rw [if_pos (by decide +kernel)]; kernel_rfl) | (rw [if_neg (by decide +kernel)]; exact ⟨rfl, rfl⟩))
    (fun os started H enc _ => lifted os started H enc)

/-- ████ THE STATEMENT ████ -/
theorem proved : Rows.FnFastRecoveryWindowAndNextStepSaid :=
  over
end Go.Proofs.Qxb6608800a.fnFastRecoveryWindowAndNextStep
