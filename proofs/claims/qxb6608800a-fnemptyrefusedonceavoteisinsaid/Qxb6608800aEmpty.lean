import Derived.Test.Qxb6608800aMsg
import Derived.Deep.RegionWith
namespace Go.Proofs.Qxb6608800a
open Go.RowKit

/-- 'grown' in the middle of the work: n votes in a row of c cells at block G; below G the world is as W was. -/
def GrownAt (W : World) (G n c : Nat) (wr : World) : Prop := (∃ xs, wr.ownsRow G 29 1 (.slice (some ⟨G, 0, none⟩) n c) n xs) ∧ Below W.heap.size W wr
/-- One vote more: behind the append, whose operand lay in a block of its own. -/
theorem GrownAt.more {W wr w' : World} {G n c : Nat} {o : Obj} {ys : List Value} (hb : Below W.heap.size W wr) (hW : W.heap.size ≤ G) (h1 : w'.ownsRow G 29 1 (.slice (some ⟨G, 0, none⟩) (n + 1) c) (n + 1) ys) (hg : (wr.alloc o).grownBy w' (some G)) :
    GrownAt W G (n + 1) c w' :=
  ⟨⟨_, h1⟩, (below_a hb o).grown hg (by have := hb.size; simp; omega) (fun k e => by cases e; exact hW)⟩

set_option maxRecDepth 100000 in
set_option maxHeartbeats 8000000 in
theorem empty_main (hv hb hr : Bool) (vr br rr ins : Int) (a : Option Addr) (len cap q : Nat) (Z : Nat → Int) (w : World) (hlen : len ≤ 65536) (hq : q ≤ len) (h : RoundsAt w a len cap Z) :
    Calls Try.prog 5 #[.bool hv, .int .u64 vr, .bool hb, .int .u64 br, .slice a len cap, .int .i64 (q : Int), .int .u64 ins, .bool hr, .int .u64 rr] w fun e w' => e = .returned (.bool true) ∧ Below w.heap.size w w' := by
  obtain ⟨i0, hi, hz0, hz1, hz2⟩ := info_parts info29
  obtain ⟨cv, hcv⟩ := vote_some ins
  obtain ⟨cr, hcr⟩ := req_some rr
  have HV : Hid (∀ w, (Instr.build 46 #[(1, .int .u64 ins)]).run Try.prog w = .ok (.agg cv) w) := hcv
  have HQ : Hid (∀ w, (Instr.build 48 #[(0, .int .u64 rr)]).run Try.prog w = .ok (.agg cr) w) := hcr
  have HR : Hid (RoundsAt w a len cap Z) := h
  clear hcv hcr h
  have eb : lenB len = true := by simp [lenB]; omega
  have hbytes := bytes10 hv hb hr vr br q ins rr a len cap w (by unfold maxLen; omega)
  rw [eb] at hbytes
  have HB : Hid (Calls Try.prog 10 #[.bool hv, .int .u64 vr, .bool hb, .int .u64 br, .slice a len cap, .int .i64 (q : Int), .int .u64 ins, .bool hr, .int .u64 rr] w fun e w' => e = .returned (.bool true) ∧ w = w') := hbytes
  clear hbytes eb
  have hmsg := msg11 hv hb hr vr br rr a len cap Z w hlen HR.out
  have HM : Hid (Calls Try.prog 11 #[.bool hv, .int .u64 vr, .bool hb, .int .u64 br, .slice a len cap, .bool hr, .int .u64 rr] w fun e w' =>
      ∃ v b s c r, e = .returned (.agg #[.pointer v, .pointer b, .slice s len c, .pointer r]) ∧ VotesAt w.heap.size w' s len ∧ Below w.heap.size w w') := hmsg
  clear hmsg
  go_enter Try.func5, Try.ntmps5
  go_wp2_with fail
  refine HB.out.mono ?_
  rintro e w' ⟨rfl, rfl⟩
  go_wp2_with fail
  refine HM.out.mono ?_
  rintro e w1 ⟨v, b, s, c, r, rfl, hvt, hbl⟩
  have HVT : Hid (VotesAt w.heap.size w1 s len) := hvt
  have HBL : Hid (Below w.heap.size w w1) := hbl
  clear hvt hbl
  go_wp2_with (at_make; refine wpList_make_own _ rfl _ _ 31 rfl (w1.heap.size + 1) 29 i0 (.pointer none) 1 Try.underlying31 hi hz0 hz1 _ _ _ (len + 1) rfl rfl ?b0 ?b1 ?b2 ?b3 ?_)
  case b0 => omega
  case b1 => rw [hz2]; omega
  case b2 => unfold maxLen; omega
  case b3 => simp
  intro w2 hown hgrow
  -- the world ahead of the make: the variable m lies at block w1.heap.size
  have M0 : Hid (∃ W : World, W.heap.size = w1.heap.size + 1 ∧ W.cell? ⟨w1.heap.size, 0, none⟩ = some (.pointer v) ∧ W.cell? ⟨w1.heap.size, 1, none⟩ = some (.pointer b) ∧ W.cell? ⟨w1.heap.size, 2, none⟩ = some (.slice s len c) ∧ W.cell? ⟨w1.heap.size, 3, none⟩ = some (.pointer r) ∧
      VotesAt w.heap.size W s len ∧ Below w.heap.size w W ∧ GrownAt W (w1.heap.size + 1) 0 (len + 1) w2) := by
    refine ⟨_, ?_, ?_, ?_, ?_, ?_, HVT.out.alloc (.cells #[.pointer v, .pointer b, .slice s len c, .pointer r] 34), below_a HBL.out _, ⟨⟨_, hown⟩, (Below.refl _ _).grown hgrow (by simp) (fun k h => by cases h)⟩⟩
    · simp
    · simp [go_sem]
    · simp [go_sem]
    · simp [go_sem]
    · simp [go_sem]
  clear hown hgrow HVT HBL HM HB HR
  generalize w1.heap.size = M at *
  obtain ⟨W, hWs, m0, m1, m2, m3, hvt, hbw, hga⟩ := M0.out
  have HM0 : Hid (W.cell? ⟨M, 0, none⟩ = some (.pointer v)) := m0
  have HM1 : Hid (W.cell? ⟨M, 1, none⟩ = some (.pointer b)) := m1
  have HM2 : Hid (W.cell? ⟨M, 2, none⟩ = some (.slice s len c)) := m2
  have HM3 : Hid (W.cell? ⟨M, 3, none⟩ = some (.pointer r)) := m3
  have HVT : Hid (VotesAt w.heap.size W s len) := hvt
  have HBW : Hid (Below w.heap.size w W) := hbw
  have HGA : Hid (GrownAt W (M + 1) 0 (len + 1) w2) := hga
  have HWS : Hid (W.heap.size = M + 1) := hWs
  clear m0 m1 m2 m3 hvt hbw hga hWs M0
  go_wp2
  go_loopg [20, 21] q (fun g sv i wr => ∃ k : Nat, k ≤ q ∧ g = q - k ∧ i = .int .i64 k ∧ sv = .slice (some ⟨M + 1, 0, none⟩) k (len + 1) ∧ Hid (GrownAt W (M + 1) k (len + 1) wr))
  case atStart => exact ⟨0, Nat.zero_le _, rfl, rfl, rfl, HGA⟩
  case round =>
    obtain ⟨k, hk, hgk, rfl, rfl, R⟩ := hrel
    have HGK : Hid (gk = q - k) := hgk
    clear hgk HGA
    by_cases hlt : k < q
    · obtain ⟨⟨xs, hown⟩, hbr⟩ := R.out
      have c2 := cell_later hbr HM2.out
      rcases HVT.out.later hbr with h0 | ⟨g, _, rfl, hcs⟩
      · omega
      obtain ⟨p, hp⟩ := hcs k (by omega)
      clear hcs
      have hkl : k < len := by omega
      go_wp2_with (at_builtin; refine wpList_append_fits _ rfl _ _ 31 rfl (M + 1) 29 i0 1 Try.underlying31 hi hz1 (M + 1) k (len + 1) xs rfl (hown.alloc _) ⟨wr.heap.size, 0, none⟩ 1 1 [.pointer p] rfl rfl ?c1 ?c2 ?c3 ?_)
      case c1 => exact cell_one_new _ _ _
      case c2 => intro u hu; simp at hu; subst hu; rfl
      case c3 => omega
      intro w3 hown3 hgrow3
      have R1 : Hid (GrownAt W (M + 1) (k + 1) (len + 1) w3) := GrownAt.more hbr (by rw [HWS.out]; exact Nat.le_refl _) hown3 hgrow3
      clear hown3 hgrow3 hown hbr hp c2 R
      go_wp2
      go_roundg (q - (k + 1))
      case measure => have := HGK.out; omega
      case rel => exact ⟨k + 1, by omega, rfl, by go_num, rfl, R1⟩
    · have hkq : q = k := by omega
      subst hkq
      obtain ⟨⟨xs, hown⟩, hbr⟩ := R.out
      go_wp2_with (first | (refine wpList_build_as rfl 46 _ rfl cv ?_ ?_; (· simp only [List.map_toArray, List.map_cons, List.map_nil]; exact HV.out _)) | (at_builtin; refine wpList_append_fits _ rfl _ _ 31 rfl (M + 1) 29 i0 1 Try.underlying31 hi hz1 (M + 1) q (len + 1) xs rfl ((hown.alloc _).alloc _) ⟨wr.heap.size + 1, 0, none⟩ 1 1 [.pointer (some ⟨wr.heap.size, 0, none⟩)] rfl rfl ?c1 ?c2 ?c3 ?_))
      case c1 => simpa using cell_one_new (wr.alloc (.cells cv 46)) _ _
      case c2 => intro u hu; simp at hu; subst hu; rfl
      case c3 => omega
      intro w3 hown3 hgrow3
      have R1 : Hid (GrownAt W (M + 1) (q + 1) (len + 1) w3) := GrownAt.more (below_a hbr _) (by rw [HWS.out]; exact Nat.le_refl _) hown3 hgrow3
      clear hown3 hgrow3 hown hbr R
      go_wp2
      go_loopg [20, 22] (len - q) (fun g sv i wr => ∃ k : Nat, q ≤ k ∧ k ≤ len ∧ g = len - k ∧ i = .int .i64 k ∧ sv = .slice (some ⟨M + 1, 0, none⟩) (k + 1) (len + 1) ∧ Hid (GrownAt W (M + 1) (k + 1) (len + 1) wr))
      case atStart => exact ⟨q, Nat.le_refl _, hq, rfl, rfl, rfl, R1⟩
      case round =>
        obtain ⟨k, hk0, hk, hgk, rfl, rfl, R⟩ := hrel
        have HGK : Hid (gk = len - k) := hgk
        clear hgk R1
        by_cases hlt : k < len
        · obtain ⟨⟨xs, hown⟩, hbr⟩ := R.out
          have c2 := cell_later hbr HM2.out
          rcases HVT.out.later hbr with h0 | ⟨g, _, rfl, hcs⟩
          · omega
          obtain ⟨p, hp⟩ := hcs k (by omega)
          clear hcs
          go_wp2_with (at_builtin; refine wpList_append_fits _ rfl _ _ 31 rfl (M + 1) 29 i0 1 Try.underlying31 hi hz1 (M + 1) (k + 1) (len + 1) xs rfl (hown.alloc _) ⟨wr.heap.size, 0, none⟩ 1 1 [.pointer p] rfl rfl ?c1 ?c2 ?c3 ?_)
          case c1 => exact cell_one_new _ _ _
          case c2 => intro u hu; simp at hu; subst hu; rfl
          case c3 => omega
          intro w4 hown4 hgrow4
          have R1 : Hid (GrownAt W (M + 1) (k + 1 + 1) (len + 1) w4) := GrownAt.more hbr (by rw [HWS.out]; exact Nat.le_refl _) hown4 hgrow4
          clear hown4 hgrow4 hown hbr hp c2 R
          go_wp2
          go_roundg (len - (k + 1))
          case measure => have := HGK.out; omega
          case rel => exact ⟨k + 1, by omega, by omega, rfl, by go_num, rfl, R1⟩
        · have hkl : len = k := by omega
          subst hkl
          obtain ⟨⟨xs, hown⟩, hbr⟩ := R.out
          have c0 := cell_later hbr HM0.out
          have c1 := cell_later hbr HM1.out
          have c2 := cell_later hbr HM2.out
          have c3 := cell_later hbr HM3.out
          have s1 : M < wr.heap.size := by have := hbr.size; rw [HWS.out] at this; omega
          have s2 : M < wr.heap.size + 1 := by omega
          have s3 : M < wr.heap.size + 1 + 1 := by omega
          have s4 : M < wr.heap.size + 1 + 1 + 1 := by omega
          have s5 : M < wr.heap.size + 1 + 1 + 1 + 1 := by omega
          have s6 : M < wr.heap.size + 1 + 1 + 1 + 1 + 1 := by omega
          have s7 : M < wr.heap.size + 1 + 1 + 1 + 1 + 1 + 1 := by omega
          have s8 : M < wr.heap.size + 1 + 1 + 1 + 1 + 1 + 1 + 1 := by omega
          have s9 : M < wr.heap.size + 1 + 1 + 1 + 1 + 1 + 1 + 1 + 1 := by omega
          have s10 : M < wr.heap.size + 1 + 1 + 1 + 1 + 1 + 1 + 1 + 1 + 1 := by omega
          have s11 : M < wr.heap.size + 1 + 1 + 1 + 1 + 1 + 1 + 1 + 1 + 1 + 1 := by omega
          have s12 : M < wr.heap.size + 1 + 1 + 1 + 1 + 1 + 1 + 1 + 1 + 1 + 1 + 1 := by omega
          have s13 : M < wr.heap.size + 1 + 1 + 1 + 1 + 1 + 1 + 1 + 1 + 1 + 1 + 1 + 1 := by omega
          have s14 : M < wr.heap.size + 1 + 1 + 1 + 1 + 1 + 1 + 1 + 1 + 1 + 1 + 1 + 1 + 1 := by omega
          have s15 : M < wr.heap.size + 1 + 1 + 1 + 1 + 1 + 1 + 1 + 1 + 1 + 1 + 1 + 1 + 1 + 1 := by omega
          have s16 : M < wr.heap.size + 1 + 1 + 1 + 1 + 1 + 1 + 1 + 1 + 1 + 1 + 1 + 1 + 1 + 1 + 1 := by omega
          have HF : Hid (Below w.heap.size w wr) := HBW.out.trans (hbr.mono HBW.out.size)
          clear hown hbr R HVT HM0 HM1 HM2 HM3 HBW HWS hlt hk HGK
          obtain ⟨X, hX⟩ : ∃ X, emptyB v b len = X := ⟨_, rfl⟩
          have hE1 : emptyB v b (len + 1) = false := by simp [emptyB]
          have hE2 : emptyB none none 0 = true := rfl
          cases r
          · go_wp2_with (refine wpList_build_as rfl 48 _ rfl cr ?_ ?_; (· simp only [List.map_toArray, List.map_cons, List.map_nil]; exact HQ.out _))
            go_region_with (go_at_call 12; refine (empty12 _ _ _ _ _ _ _ _ rfl).mono ?_; rintro e w' ⟨rfl, rfl⟩)
            all_goals
              go_wp2
              go_ret
              refine ⟨rfl, ?_⟩
              repeat (first | with_reducible exact HF.out | with_reducible refine Below.drew ?_ | with_reducible refine below_a ?_ _)
          · go_wp2
            go_region_with (go_at_call 12; refine (empty12 _ _ _ _ _ _ _ _ rfl).mono ?_; rintro e w' ⟨rfl, rfl⟩)
            all_goals
              go_wp2
              go_ret
              refine ⟨rfl, ?_⟩
              repeat (first | with_reducible exact HF.out | with_reducible refine Below.drew ?_ | with_reducible refine below_a ?_ _)
end Go.Proofs.Qxb6608800a
