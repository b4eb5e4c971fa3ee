import Derived.Test.Qxb6608800aRand
import Derived.Test.Qxb6608800aPcg
import Derived.Deep.LoopGhost
namespace Go.Proofs.Qxb6608800a
open Go.RowKit

theorem thresh : (IntKind.u64.wrap (-300000000001)).tmod 300000000001 = 273648062470 := by decide +kernel

set_option maxRecDepth 100000 in
set_option maxHeartbeats 2000000 in
theorem uint64n23 (bp br s m : Nat) (w : World) (h : RandAt bp br s w) (hne : bp ≠ br) (he : EndsIn m s) :
    Calls Try.prog 23 #[.pointer (some ⟨br, 0, none⟩), .int .u64 300000000001] w fun e w' => e = .returned (.int .u64 (drawF m s)) ∧ Below bp w w' := by
  obtain ⟨k, rfl⟩ := ends_pos he
  have HR : Hid (RandAt bp br s w) := h
  have HE : Hid (EndsIn (k + 1) s) := he
  have HN : Hid (bp ≠ br) := hne
  have hp2 := no_pow2
  have hth := thresh
  obtain ⟨l0, l1⟩ := loS_range (stepS s)
  clear h he hne
  by_cases hlt : loS (stepS s) < 300000000001
  · go_enter Try.func23, Try.ntmps23
    go_wp2_with fail
    refine (draw25 bp br s _ HR.out HN.out).mono ?_
    rintro e w1 ⟨rfl, hr1, hb1⟩
    have HR1 : Hid (RandAt bp br (stepS s) w1) := hr1
    have HB1 : Hid (Below bp w w1) := hb1
    clear hr1 hb1
    go_wp2_with fail
    refine (mulS (stepS s) _).mono ?_
    rintro e w2 ⟨rfl, rfl⟩
    go_wp2
    go_loopg [5, 6] (k + 1) (fun g sh sl wr => ∃ t : Nat, sh = .int .u64 (hiS t) ∧ sl = .int .u64 (loS t) ∧ Hid (RandAt bp br t wr ∧ Below bp w wr ∧ 0 < g ∧ (loS t < 273648062470 → EndsIn (g - 1) t ∧ drawF (g - 1) t = drawF (k + 1) s) ∧ (¬ loS t < 273648062470 → hiS t = drawF (k + 1) s)))
    case atStart =>
      refine ⟨stepS s, rfl, rfl, HR1.out, HB1.out, by omega, fun hb => ?_, fun hb => (drawF_good hb).symm⟩
      exact ⟨HE.out hb, (drawF_bad hb).symm⟩
    case round =>
      obtain ⟨t, rfl, rfl, R⟩ := hrel
      clear HR1 HB1 l0 l1 hlt
      by_cases hb : loS t < 273648062470
      · obtain ⟨hr, hbl, hg0, hbad, _⟩ := R.out
        obtain ⟨he1, hd1⟩ := hbad hb
        obtain ⟨j, hj⟩ := ends_pos he1
        rw [hj] at he1 hd1
        have HX : Hid (RandAt bp br t wr ∧ Below bp w wr ∧ gk - 1 = j + 1 ∧ EndsIn (j + 1) t ∧ drawF (j + 1) t = drawF (k + 1) s) := ⟨hr, hbl, hj, he1, hd1⟩
        have hd : decide (loS t < 273648062470) = true := by simpa using hb
        clear hr hbl hg0 hbad he1 hd1 hj hb R
        go_wp2_with fail
        refine (draw25 bp br t _ HX.out.1 HN.out).mono ?_
        rintro e w3 ⟨rfl, hr3, hb3⟩
        have HR3 : Hid (RandAt bp br (stepS t) w3) := hr3
        have HB3 : Hid (Below bp wr w3) := hb3
        clear hr3 hb3
        go_wp2_with fail
        refine (mulS (stepS t) _).mono ?_
        rintro e w4 ⟨rfl, rfl⟩
        go_wp2
        go_roundg (j + 1)
        case measure => have := HX.out.2.2.1; omega
        case rel =>
          obtain ⟨_, hbl, _, he1, hd1⟩ := HX.out
          refine ⟨stepS t, rfl, rfl, HR3.out, hbl.trans HB3.out, by omega, fun hb => ?_, fun hb => ?_⟩
          · refine ⟨he1 hb, ?_⟩
            rw [← hd1, drawF_bad hb]
            rfl
          · rw [← hd1, drawF_good (show ¬ loS (stepS t) < 273648062470 by omega)]
      · have hd : decide (loS t < 273648062470) = false := by simpa using hb
        go_wp2
        go_ret
        obtain ⟨_, hbl, _, _, hU⟩ := R.out
        refine ⟨?_, hbl⟩
        rw [← hU hb]
        rfl
  · have hg : ¬ loS (stepS s) < 273648062470 := by omega
    have HG : Hid (drawF (k + 1) s = hiS (stepS s)) := drawF_good hg
    have hd : decide (loS (stepS s) < 300000000001) = false := by simpa using hlt
    clear hg hlt l0 l1
    go_enter Try.func23, Try.ntmps23
    go_wp2_with fail
    refine (draw25 bp br s _ HR.out HN.out).mono ?_
    rintro e w1 ⟨rfl, hr1, hb1⟩
    have HB1 : Hid (Below bp w w1) := hb1
    clear hr1 hb1
    go_wp2_with fail
    refine (mulS (stepS s) _).mono ?_
    rintro e w2 ⟨rfl, rfl⟩
    go_wp2
    go_ret
    refine ⟨?_, HB1.out⟩
    rw [HG.out]
    rfl

/-! ### The draws end: the generator comes to every state, and there is one whose draw is not refused -/
def goodS : Nat := 18446744073709551617
theorem good_draw : ¬ loS goodS < 273648062470 := by decide +kernel
def mulC : Nat := 47026247687942121848144207491837523525
def incC : Nat := 117397592171526113268558934119004209487
theorem step_is (s : Nat) : stepS s = Pcg.step (2 ^ 128) mulC incC s := by
  unfold stepS Pcg.step mulC incC
  rw [show (2 : Nat) ^ 128 = 340282366920938463463374607431768211456 from by decide +kernel]
theorem endsIn_succ {m s : Nat} (h : loS (stepS s) < 273648062470 → EndsIn m (stepS s)) : EndsIn (m + 1) s := h
theorem ends_of (j : Nat) : ∀ s, Pcg.iter (2 ^ 128) mulC incC j (stepS s) = goodS → EndsIn (j + 1) s := by
  induction j with
  | zero =>
    intro s h
    rw [Pcg.iter_zero] at h
    refine endsIn_succ fun hb => ?_
    rw [h] at hb
    exact (good_draw hb).elim
  | succ j ih =>
    intro s h
    rw [Pcg.iter_succ, ← step_is] at h
    exact endsIn_succ fun _ => ih (stepS s) h
theorem ends (s : Nat) : ∃ m, EndsIn m s := by
  obtain ⟨j, hj⟩ := Pcg.reach_all mulC incC (mulC / 4) (incC / 2) 128 (by decide +kernel) (by decide +kernel) goodS (stepS s) (by decide +kernel) (by rw [step_is]; exact Pcg.step_lt _ _ _ _ (Nat.two_pow_pos 128))
  exact ⟨j + 1, ends_of j s hj⟩
/-- What the generator seeded by s hands to 'Int64N(300000000001)': some number from 0 to 300000000000, the same at every call. -/
theorem draw_any (s : Nat) : ∃ u : Int, 0 ≤ u ∧ u ≤ 300000000000 ∧ ∀ (bp br : Nat) (w : World), RandAt bp br s w → bp ≠ br →
    Calls Try.prog 23 #[.pointer (some ⟨br, 0, none⟩), .int .u64 300000000001] w fun e w' => e = .returned (.int .u64 u) ∧ Below bp w w' := by
  obtain ⟨m, hm⟩ := ends s
  exact ⟨drawF m s, (drawF_range m s).1, (drawF_range m s).2, fun bp br w h hne => uint64n23 bp br s m w h hne hm⟩
end Go.Proofs.Qxb6608800a
