import Derived.Test.Qxb6608800aCross
namespace Go.Proofs.Qxb6608800a
open Go.RowKit

/-! ### The plain law -/
/-- The running weight behind k additions. -/
def sumTo (b : Int) (Z : Nat → Int) : Nat → Int
  | 0 => b
  | k + 1 => sumTo b Z k + Z k

theorem sumTo_le {b : Int} {Z : Nat → Int} {n : Nat} (hz : ∀ i, i < n → 0 ≤ Z i) (i : Nat) : ∀ d, i + d ≤ n → sumTo b Z i ≤ sumTo b Z (i + d)
  | 0, _ => Int.le_refl _
  | d + 1, h => by
    have h1 := sumTo_le (b := b) hz i d (by omega)
    have h2 := hz (i + d) (by omega)
    show sumTo b Z i ≤ sumTo b Z (i + d) + Z (i + d)
    omega
theorem sumTo_mono {b : Int} {Z : Nat → Int} {n : Nat} (hz : ∀ i, i < n → 0 ≤ Z i) {i j : Nat} (hij : i ≤ j) (hj : j ≤ n) : sumTo b Z i ≤ sumTo b Z j := by
  have := sumTo_le (b := b) hz i (j - i) (by omega)
  rwa [show i + (j - i) = j from by omega] at this

/-- 'f' is the index of the first crossing. -/
def FirstAt (b : Int) (Z : Nat → Int) (n : Nat) (th f : Int) : Prop :=
  ∀ i : Nat, i < n → ((i : Int) == f) = (decide (th ≤ sumTo b Z (i + 1)) && decide (sumTo b Z i < th))

theorem first_none {b : Int} {Z : Nat → Int} {n : Nat} {th : Int} (hz : ∀ i, i < n → 0 ≤ Z i) (h : th ≤ b ∨ sumTo b Z n < th) : FirstAt b Z n th (-1) := by
  intro i hi
  have e : ((i : Int) == -1) = false := beq_eq_false_iff_ne.2 (by omega)
  rw [e]
  rcases h with h | h
  · have := sumTo_mono (b := b) hz (Nat.zero_le i) (by omega)
    have h0 : sumTo b Z 0 = b := rfl
    rw [show decide (sumTo b Z i < th) = false from decide_eq_false (by omega), Bool.and_false]
  · have := sumTo_mono (b := b) hz (show i + 1 ≤ n from by omega) (Nat.le_refl n)
    rw [show decide (th ≤ sumTo b Z (i + 1)) = false from decide_eq_false (by omega), Bool.false_and]
theorem first_at {b : Int} {Z : Nat → Int} {n : Nat} {th : Int} (hz : ∀ i, i < n → 0 ≤ Z i) {j : Nat} (hj : j < n) (h1 : sumTo b Z j < th) (h2 : th ≤ sumTo b Z j + Z j) : FirstAt b Z n th (j : Int) := by
  intro i hi
  have e2 : sumTo b Z (j + 1) = sumTo b Z j + Z j := rfl
  by_cases hij : i = j
  · subst hij
    rw [decide_eq_true (show th ≤ sumTo b Z (i + 1) from by omega), decide_eq_true h1]
    simp
  · rw [show ((i : Int) == (j : Int)) = false from beq_eq_false_iff_ne.2 (by omega)]
    rcases Nat.lt_or_gt_of_ne hij with h | h
    · have := sumTo_mono (b := b) hz (show i + 1 ≤ j from by omega) (by omega)
      rw [show decide (th ≤ sumTo b Z (i + 1)) = false from decide_eq_false (by omega), Bool.false_and]
    · have := sumTo_mono (b := b) hz (show j + 1 ≤ i from by omega) (by omega)
      rw [show decide (sumTo b Z i < th) = false from decide_eq_false (by omega), Bool.and_false]
theorem first_reach {b : Int} {Z : Nat → Int} {n : Nat} {th f : Int} (hf : FirstAt b Z n th f) {k : Nat} (hk : k < n) {p t : Int} (h : t + p = sumTo b Z k + Z k) : reachB p t (Z k) th = ((k : Int) == f) := by
  rw [hf k hk]
  unfold reachB
  rw [show sumTo b Z (k + 1) = t + p from h.symm, show t + p - Z k = sumTo b Z k from by omega]

set_option maxRecDepth 100000 in
set_option maxHeartbeats 4000000 in
theorem cross_walk (a0 a1 a4 : Int) (v2 : Option Addr) (len cap : Nat) (Z : Nat → Int) (v3 : Option Addr) (len3 cap3 : Nat) (B : Nat → Bool) (w : World)
    (l0 : 0 ≤ a0) (l1 : 0 ≤ a1) (l4 : 0 ≤ a4) (u0 : a0 ≤ 18446744073709551615) (u1 : a1 ≤ 18446744073709551615) (u4 : a4 ≤ 18446744073709551615)
    (hlen : len ≤ 65536) (hlen3 : len3 ≤ 65536)
    (hc : len = 0 ∨ ∃ b off, v2 = some ⟨b, off, none⟩ ∧ ∀ i, i < len → w.cell? ⟨b, off + i, none⟩ = some (.int .u64 (Z i))) (hz : ∀ i, i < len → 0 ≤ Z i ∧ Z i ≤ 18446744073709551615)
    (hB : len3 = 0 ∨ ∃ b3 off3, v3 = some ⟨b3, off3, none⟩ ∧ ∀ i, i < len3 → w.cell? ⟨b3, off3 + i, none⟩ = some (.bool (B i))) :
    Calls Try.prog 3 #[.int .u64 a0, .int .u64 a1, .slice v2 len cap, .slice v3 len3 cap3, .int .u64 a4] w fun e w' => e = .returned (.bool true) ∧ Below w.heap.size w w' := by
  have eb : bytesB len len3 = true := by simp [bytesB]; omega
  have hbytes := bytes8 a0 a1 a4 v2 v3 len cap len3 cap3 w (by unfold maxLen; omega) (by unfold maxLen; omega)
  rw [eb] at hbytes
  have HB : Hid (Calls Try.prog 8 #[.int .u64 a0, .int .u64 a1, .slice v2 len cap, .slice v3 len3 cap3, .int .u64 a4] w fun e w' => e = .returned (.bool true) ∧ w = w') := hbytes.mono fun e w' h => ⟨h.1, h.2.symm⟩
  clear hbytes eb
  by_cases h1 : 18446744073709551615 - a0 < a1
  · go_enter Try.func3, Try.ntmps3
    go_wp2_with fail
    refine HB.out.mono ?_
    rintro e w' ⟨rfl, rfl⟩
    go_wp2
    go_ret
    exact ⟨rfl, Below.refl _ _⟩
  have HC : Hid (len = 0 ∨ ∃ b off, v2 = some ⟨b, off, none⟩ ∧ ∀ i, i < len → w.cell? ⟨b, off + i, none⟩ = some (.int .u64 (Z i))) := hc
  have HZ : Hid (∀ i, i < len → 0 ≤ Z i ∧ Z i ≤ 18446744073709551615) := hz
  have HZ0 : Hid (∀ i, i < len → 0 ≤ Z i) := fun i hi => (hz i hi).1
  have HBB : Hid (len3 = 0 ∨ ∃ b3 off3, v3 = some ⟨b3, off3, none⟩ ∧ ∀ i, i < len3 → w.cell? ⟨b3, off3 + i, none⟩ = some (.bool (B i))) := hB
  clear hc hz hB
  go_enter Try.func3, Try.ntmps3
  go_wp2_with fail
  refine HB.out.mono ?_
  rintro e w' ⟨rfl, hw'⟩
  subst hw'
  go_wp2
  go_loop [11, 12] (fun t i => ∃ k : Nat, k ≤ len ∧ i = .int .i64 k ∧ t = .int .u64 (sumTo (a1 + a0) Z k) ∧ 0 ≤ sumTo (a1 + a0) Z k ∧ sumTo (a1 + a0) Z k ≤ 18446744073709551615) (fun _ i => len - (intOf i).toNat)
  case atStart => exact ⟨0, Nat.zero_le _, rfl, rfl, by show 0 ≤ a1 + a0; omega, by show a1 + a0 ≤ _; omega⟩
  case round =>
    obtain ⟨k, hk, rfl, rfl, hs0, hs1⟩ := hrel
    by_cases hlt : k < len
    · rcases HC.out with hC | ⟨b, off, rfl, hC⟩
      · omega
      have hck := hC k hlt
      clear hC
      obtain ⟨hz0, hz1⟩ := HZ.out k hlt
      by_cases ht : 18446744073709551615 - sumTo (a1 + a0) Z k < Z k
      · go_wp2
        go_ret
        exact ⟨rfl, Below.refl _ _⟩
      · go_wp2
        go_round
        case rel => exact ⟨k + 1, by omega, by go_num, rfl, by show 0 ≤ sumTo (a1 + a0) Z k + Z k; omega, by show sumTo (a1 + a0) Z k + Z k ≤ _; omega⟩
        case measure => simp [intOf]; omega
    · have hkl : len = k := by omega
      subst hkl
      clear hlt hk
      go_upto_if 63 with fail
      go_cut [13, 14, 15] from 19 (fun s13 s14 s15 wc => w = wc ∧ ∃ f : Int, s13 = .int .i64 f ∧ FirstAt (a1 + a0) Z len a4 f)
      case first =>
        by_cases hr : a1 + a0 < a4
        · go_wp2
          go_loop [13, 14, 15] (fun fi t i => ∃ k : Nat, k ≤ len ∧ fi = .int .i64 (-1) ∧ i = .int .i64 k ∧ t = .int .u64 (sumTo (a1 + a0) Z k) ∧ 0 ≤ sumTo (a1 + a0) Z k ∧ sumTo (a1 + a0) Z k < a4) (fun _ _ i => len - (intOf i).toNat)
          case atStart => exact ⟨0, Nat.zero_le _, rfl, rfl, rfl, by show 0 ≤ a1 + a0; omega, by show a1 + a0 < _; omega⟩
          case round =>
            obtain ⟨k, hk, rfl, rfl, rfl, ht0, ht1⟩ := hrel
            by_cases hlt : k < len
            · rcases HC.out with hC | ⟨b, off, rfl, hC⟩
              · omega
              have hck := hC k hlt
              clear hC
              obtain ⟨hz0, hz1⟩ := HZ.out k hlt
              have hmo := sumTo_mono (b := a1 + a0) HZ0.out (show k + 1 ≤ len from hlt) (Nat.le_refl _)
              have hmo' : sumTo (a1 + a0) Z k + Z k ≤ sumTo (a1 + a0) Z len := hmo
              clear hmo
              by_cases hcr : a4 ≤ sumTo (a1 + a0) Z k + Z k
              · go_wp2
                go_meet
                case rel => exact ⟨rfl, _, rfl, first_at HZ0.out hlt ht1 hcr⟩
              · go_wp2
                go_round
                case rel => exact ⟨k + 1, by omega, rfl, by go_num, rfl, by show 0 ≤ sumTo (a1 + a0) Z k + Z k; omega, by show sumTo (a1 + a0) Z k + Z k < _; omega⟩
                case measure => simp [intOf]; omega
            · have hkl : len = k := by omega
              subst hkl
              go_wp2
              go_meet
              case rel => exact ⟨rfl, _, rfl, first_none HZ0.out (Or.inr ht1)⟩
        · go_wp2
          go_meet
          case rel => exact ⟨rfl, _, rfl, first_none HZ0.out (Or.inl (by omega))⟩
      case rest =>
        obtain ⟨hw, f, rfl, HF0⟩ := hcut
        subst hw
        have HF : Hid (FirstAt (a1 + a0) Z len a4 f) := HF0
        clear HF0
        go_wp2
        go_loopg [16, 17, 18] len (fun g sw sp i wr => ∃ (k : Nat) (W P : Int), k ≤ len ∧ g = len - k ∧ i = .int .i64 k ∧ sw = .int .u64 W ∧ sp = .int .u64 P ∧ 0 ≤ W ∧ 0 ≤ P ∧ W + P = sumTo (a1 + a0) Z k ∧ Below w.heap.size w wr)
        case atStart => exact ⟨0, a1, a0, Nat.zero_le _, rfl, rfl, rfl, rfl, l1, l0, rfl, Below.refl _ _⟩
        case round =>
          obtain ⟨k, W, P, hk, hgk, rfl, rfl, rfl, hW, hP, hWP, hbl⟩ := hrel
          have HWP : Hid (W + P = sumTo (a1 + a0) Z k) := hWP
          have hwp1 : W + P ≤ sumTo (a1 + a0) Z k := by omega
          clear hWP
          have HGK : Hid (gk = len - k) := hgk
          clear hgk
          by_cases hlt : k < len
          · rcases HC.out with hC | ⟨b, off, rfl, hC⟩
            · omega
            have hck := cell_later hbl (hC k hlt)
            clear hC
            obtain ⟨hz0, hz1⟩ := HZ.out k hlt
            have hmo := sumTo_mono (b := a1 + a0) HZ0.out (show k + 1 ≤ len from hlt) (Nat.le_refl _)
            have hmo' : sumTo (a1 + a0) Z k + Z k ≤ sumTo (a1 + a0) Z len := hmo
            clear hmo
            by_cases hk3 : k < len3
            · rcases HBB.out with h0 | ⟨b3, off3, rfl, hB3⟩
              · omega
              have hbk := cell_later hbl (hB3 k hk3)
              clear hB3
              cases hBk : B k
              · rw [hBk] at hbk
                go_wp2_with fail
                refine (reaches_below ((k : Int) == f) P (W + Z k) (Z k) a4 _ (by omega) (by omega) (by have := HWP.out; omega) hz0 (by omega) (first_reach HF.out hlt (by have := HWP.out; omega))).mono ?_
                rintro e w2 ⟨rfl, hg⟩
                go_wp2
                go_roundg (len - (k + 1))
                case measure => have := HGK.out; omega
                case rel => exact ⟨k + 1, (W + Z k), P, by omega, rfl, by go_num, rfl, rfl, by omega, by omega, by have := HWP.out; show _ = sumTo (a1 + a0) Z k + Z k; omega, hbl.trans (hg.mono hbl.size)⟩
              · rw [hBk] at hbk
                go_wp2_with fail
                refine (reaches_below ((k : Int) == f) (P + Z k) W (Z k) a4 _ (by omega) (by omega) (by have := HWP.out; omega) hz0 (by omega) (first_reach HF.out hlt (by have := HWP.out; omega))).mono ?_
                rintro e w2 ⟨rfl, hg⟩
                go_wp2
                go_roundg (len - (k + 1))
                case measure => have := HGK.out; omega
                case rel => exact ⟨k + 1, W, (P + Z k), by omega, rfl, by go_num, rfl, rfl, by omega, by omega, by have := HWP.out; show _ = sumTo (a1 + a0) Z k + Z k; omega, hbl.trans (hg.mono hbl.size)⟩
            · go_wp2_with fail
              refine (reaches_below ((k : Int) == f) P (W + Z k) (Z k) a4 _ (by omega) (by omega) (by have := HWP.out; omega) hz0 (by omega) (first_reach HF.out hlt (by have := HWP.out; omega))).mono ?_
              rintro e w2 ⟨rfl, hg⟩
              go_wp2
              go_roundg (len - (k + 1))
              case measure => have := HGK.out; omega
              case rel => exact ⟨k + 1, (W + Z k), P, by omega, rfl, by go_num, rfl, rfl, by omega, by omega, by have := HWP.out; show _ = sumTo (a1 + a0) Z k + Z k; omega, hbl.trans (hg.mono hbl.size)⟩
          · go_wp2
            go_ret
            exact ⟨rfl, hbl⟩

set_option maxHeartbeats 400000 in
/-- A slice of more than 65536 elements: true at once. -/
theorem cross_big (a0 a1 a4 : Int) (v2 : Option Addr) (len cap : Nat) (v3 : Option Addr) (len3 cap3 : Nat) (w : World) (hm : len ≤ maxLen) (hm3 : len3 ≤ maxLen) (h : 65536 < len ∨ 65536 < len3) :
    Calls Try.prog 3 #[.int .u64 a0, .int .u64 a1, .slice v2 len cap, .slice v3 len3 cap3, .int .u64 a4] w fun e w' => e = .returned (.bool true) ∧ Below w.heap.size w w' := by
  have hbytes := bytes8 a0 a1 a4 v2 v3 len cap len3 cap3 w hm hm3
  cases hb : bytesB len len3
  · rw [hb] at hbytes
    have HB : Hid (Calls Try.prog 8 #[.int .u64 a0, .int .u64 a1, .slice v2 len cap, .slice v3 len3 cap3, .int .u64 a4] w fun e w' => e = .returned (.bool false) ∧ w' = w) := hbytes
    clear hbytes hb
    go_enter Try.func3, Try.ntmps3
    go_wp2_with fail
    refine HB.out.mono ?_
    rintro e w' ⟨rfl, rfl⟩
    go_wp2
    go_ret
    exact ⟨rfl, Below.refl _ _⟩
  · rw [hb] at hbytes
    have HB : Hid (Calls Try.prog 8 #[.int .u64 a0, .int .u64 a1, .slice v2 len cap, .slice v3 len3 cap3, .int .u64 a4] w fun e w' => e = .returned (.bool true) ∧ w' = w) := hbytes
    clear hbytes hb
    unfold maxLen at hm hm3
    by_cases h2 : 65536 < len
    · go_enter Try.func3, Try.ntmps3
      go_wp2_with fail
      refine HB.out.mono ?_
      rintro e w' ⟨rfl, rfl⟩
      go_wp2
      go_ret
      exact ⟨rfl, Below.refl _ _⟩
    · have h3 : 65536 < len3 := by omega
      go_enter Try.func3, Try.ntmps3
      go_wp2_with fail
      refine HB.out.mono ?_
      rintro e w' ⟨rfl, rfl⟩
      go_wp2
      go_ret
      exact ⟨rfl, Below.refl _ _⟩
end Go.Proofs.Qxb6608800a
