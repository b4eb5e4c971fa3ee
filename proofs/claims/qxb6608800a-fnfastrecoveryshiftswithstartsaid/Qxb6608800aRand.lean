import Derived.Test.Qxb6608800aReach
import Derived.Shelf.Bits.Mul64
import Derived.Laws.Externs
import Derived.BigQuiet
import Derived.Deep.QuietTactic
import Derived.WalkLawsBesides
namespace Go.Proofs.Qxb6608800a
open Go.RowKit

set_option maxHeartbeats 1000000 in
/-- math/bits.Mul64 at this dump (after the shelf's own proof). -/
theorem mul26 (x y : Nat) (hx : x < 18446744073709551616) (hy : y < 18446744073709551616) (w : World) :
    Calls Try.prog 26 #[.int .u64 x, .int .u64 y] w fun e w' => e = .returned (.tuple #[.int .u64 ((x * y / 18446744073709551616 : Nat) : Int), .int .u64 ((x * y % 18446744073709551616 : Nat) : Int)]) ∧ w = w' := by
  obtain ⟨bd, bt, bw, hhi⟩ := Lib.mul64_hi x y hx hy
  have ba := Lib.half_mul_le (a := x / 4294967296) (b := y / 4294967296) (by omega) (by omega)
  have bb := Lib.half_mul_le (a := x / 4294967296) (b := y % 4294967296) (by omega) (by omega)
  have bc := Lib.half_mul_le (a := x % 4294967296) (b := y / 4294967296) (by omega) (by omega)
  have ba' : x / 4294967296 * (y / 4294967296) < 18446744073709551616 := by omega
  have bb' : x / 4294967296 * (y % 4294967296) < 18446744073709551616 := by omega
  have bc' : x % 4294967296 * (y / 4294967296) < 18446744073709551616 := by omega
  have bh1 : x / 4294967296 * (y / 4294967296) + (x / 4294967296 * (y % 4294967296) + x % 4294967296 * (y % 4294967296) / 4294967296) / 4294967296 < 18446744073709551616 := by omega
  have bh : x / 4294967296 * (y / 4294967296) + (x / 4294967296 * (y % 4294967296) + x % 4294967296 * (y % 4294967296) / 4294967296) / 4294967296 + ((x / 4294967296 * (y % 4294967296) + x % 4294967296 * (y % 4294967296) / 4294967296) % 4294967296 + x % 4294967296 * (y / 4294967296)) / 4294967296 < 18446744073709551616 := by omega
  go_enter Try.func26, Try.ntmps26
  go_wp2
  simp only [Mul64.maskN x hx, Mul64.maskN y hy, Mul64.divN, Mul64.mulN, Mul64.addN, Mul64.wrapN _ bd, Mul64.wrapN _ bb', Mul64.wrapN _ bt, Mul64.maskN _ bt, Mul64.wrapN _ bc', Mul64.wrapN _ bw, Mul64.wrapN _ ba', Mul64.wrapN _ bh1, Mul64.wrapN _ bh, Mul64.wrapM (x * y)]
  rw [hhi]
  go_ret2
  exact ⟨rfl, rfl⟩

theorem add59 (x y c : Int) (hx : 0 ≤ x) (hy : 0 ≤ y) (hc0 : 0 ≤ c) (hc : c ≤ 1) (w : World) : (callFunc 59 #[.int .u64 x, .int .u64 y, .int .u64 c]).run Try.prog w =
    .ok (.value (.tuple #[.int .u64 ((x + y + c) % 18446744073709551616), .int .u64 ((x + y + c) / 18446744073709551616)])) w := by
  rw [run_callFunc_extern Try.func59 (by kernel_rfl) (by kernel_rfl) (by kernel_rfl) (e := add64Entry) (by kernel_rfl), run_add64 x y c hx hy hc0 hc]
  rfl
theorem add59_0 (x y : Int) (hx : 0 ≤ x) (hy : 0 ≤ y) (w : World) : (callFunc 59 #[.int .u64 x, .int .u64 y, .int .u64 0]).run Try.prog w =
    .ok (.value (.tuple #[.int .u64 ((x + y) % 18446744073709551616), .int .u64 ((x + y) / 18446744073709551616)])) w := by
  simpa using add59 x y 0 hx hy (Int.le_refl 0) (by decide) w

theorem mulI (x y : Int) (hx0 : 0 ≤ x) (hx : x ≤ 18446744073709551615) (hy0 : 0 ≤ y) (hy : y ≤ 18446744073709551615) (w : World) :
    Calls Try.prog 26 #[.int .u64 x, .int .u64 y] w fun e w' => e = .returned (.tuple #[.int .u64 (x * y / 18446744073709551616), .int .u64 (x * y % 18446744073709551616)]) ∧ w = w' := by
  obtain ⟨x, rfl⟩ := Int.eq_ofNat_of_zero_le hx0
  obtain ⟨y, rfl⟩ := Int.eq_ofNat_of_zero_le hy0
  refine (mul26 x y (by omega) (by omega) w).mono fun e w' h => ⟨?_, h.2⟩
  rw [h.1, Int.natCast_ediv, Int.natCast_emod, Int.natCast_mul]
  rfl

/-- The generator's step, as the Go text reckons it. -/
def nLo (lo : Int) : Int := (lo * 4865540595714422341 % 18446744073709551616 + 1442695040888963407) % 18446744073709551616
def nHi (hi lo : Int) : Int :=
  (IntKind.u64.wrap (lo * 4865540595714422341 / 18446744073709551616 + IntKind.u64.wrap (IntKind.u64.wrap (hi * 4865540595714422341) + IntKind.u64.wrap (lo * 2549297995355413924))) + 6364136223846793005
    + (lo * 4865540595714422341 % 18446744073709551616 + 1442695040888963407) / 18446744073709551616) % 18446744073709551616

/-- The state has moved on: its two words are written, and draws made. -/
def Moved (bp : Nat) (hi lo : Int) (w w' : World) : Prop := ∃ n, w' = ((w.drewN n).setCell ⟨bp, 1, none⟩ (.int .u64 lo)).setCell ⟨bp, 0, none⟩ (.int .u64 hi)

theorem nLo_range (lo : Int) : 0 ≤ nLo lo ∧ nLo lo ≤ 18446744073709551615 := by unfold nLo; omega
theorem nHi_range (hi lo : Int) : 0 ≤ nHi hi lo ∧ nHi hi lo ≤ 18446744073709551615 := by unfold nHi; omega

set_option maxHeartbeats 1000000 in
theorem next58 (bp : Nat) (hi lo : Int) (w : World) (hl0 : 0 ≤ lo) (hl : lo ≤ 18446744073709551615)
    (c0 : w.cell? ⟨bp, 0, none⟩ = some (.int .u64 hi)) (c1 : w.cell? ⟨bp, 1, none⟩ = some (.int .u64 lo)) (f0 : w.frozen? ⟨bp, 0, none⟩ = false) (f1 : w.frozen? ⟨bp, 1, none⟩ = false) :
    Calls Try.prog 58 #[.pointer (some ⟨bp, 0, none⟩)] w fun e w' => e = .returned (.tuple #[.int .u64 (nHi hi lo), .int .u64 (nLo lo)]) ∧ Moved bp (nHi hi lo) (nLo lo) w w' := by
  go_enter Try.func58, Try.ntmps58
  go_wp2_with fail
  refine (mulI lo 4865540595714422341 hl0 hl (by omega) (by omega) _).mono ?_
  rintro e w' ⟨rfl, rfl⟩
  go_wp2_with fail
  go_quiet (fail)
  go_wp2_with fail
  have l0 : 0 ≤ lo * 4865540595714422341 % 18446744073709551616 := by omega
  have l1 : lo * 4865540595714422341 % 18446744073709551616 < 18446744073709551616 := by omega
  have h0 : 0 ≤ IntKind.u64.wrap (lo * 4865540595714422341 / 18446744073709551616 + IntKind.u64.wrap (IntKind.u64.wrap (hi * 4865540595714422341) + IntKind.u64.wrap (lo * 2549297995355413924))) := by rw [IntKind.wrap_u64]; omega
  generalize hL : lo * 4865540595714422341 % 18446744073709551616 = L at *
  generalize hH : IntKind.u64.wrap (lo * 4865540595714422341 / 18446744073709551616 + IntKind.u64.wrap (IntKind.u64.wrap (hi * 4865540595714422341) + IntKind.u64.wrap (lo * 2549297995355413924))) = H at *
  have HL : Hid (lo * 4865540595714422341 % 18446744073709551616 = L) := hL
  have HH : Hid (IntKind.u64.wrap (lo * 4865540595714422341 / 18446744073709551616 + IntKind.u64.wrap (IntKind.u64.wrap (hi * 4865540595714422341) + IntKind.u64.wrap (lo * 2549297995355413924))) = H) := hH
  clear hL hH
  have k0 : 0 ≤ (L + 1442695040888963407) / 18446744073709551616 := by omega
  have k1 : (L + 1442695040888963407) / 18446744073709551616 ≤ 1 := by omega
  go_wp2_with (first | simp only [add59_0 L 1442695040888963407 l0 (by decide)] | simp only [add59 H 6364136223846793005 _ h0 (by decide) k0 k1])
  go_ret2
  have e1 : nLo lo = (L + 1442695040888963407) % 18446744073709551616 := by unfold nLo; rw [HL.out]
  have e2 : nHi hi lo = (H + 6364136223846793005 + (L + 1442695040888963407) / 18446744073709551616) % 18446744073709551616 := by unfold nHi; rw [HL.out, HH.out]
  rw [e1, e2]
  exact ⟨rfl, nq, rfl⟩

/-- What PCG.Uint64 makes of the state's two words. -/
def mixI (h : Int) : Int := IntKind.u64.wrap (bits .xor .u64 h (h / 4294967296) * 15750249268501108917)
def outI (h l : Int) : Int := IntKind.u64.wrap (bits .xor .u64 (mixI h) (mixI h / 281474976710656) * bits .or .u64 l 1)
theorem outI_range (h l : Int) : 0 ≤ outI h l ∧ outI h l ≤ 18446744073709551615 := by unfold outI; rw [IntKind.wrap_u64]; omega

set_option maxHeartbeats 1000000 in
theorem pcg57 (bp : Nat) (hi lo : Int) (w : World) (hl0 : 0 ≤ lo) (hl : lo ≤ 18446744073709551615)
    (c0 : w.cell? ⟨bp, 0, none⟩ = some (.int .u64 hi)) (c1 : w.cell? ⟨bp, 1, none⟩ = some (.int .u64 lo)) (f0 : w.frozen? ⟨bp, 0, none⟩ = false) (f1 : w.frozen? ⟨bp, 1, none⟩ = false) :
    Calls Try.prog 57 #[.pointer (some ⟨bp, 0, none⟩)] w fun e w' => e = .returned (.int .u64 (outI (nHi hi lo) (nLo lo))) ∧ Moved bp (nHi hi lo) (nLo lo) w w' := by
  go_enter Try.func57, Try.ntmps57
  go_wp2_with fail
  refine (next58 bp hi lo _ hl0 hl c0 c1 f0 f1).mono ?_
  rintro e w' ⟨rfl, hm⟩
  obtain ⟨r1, r2⟩ := nHi_range hi lo
  obtain ⟨r3, r4⟩ := nLo_range lo
  generalize hh' : nHi hi lo = h' at *
  generalize hl' : nLo lo = l' at *
  have HH : Hid (nHi hi lo = h') := hh'
  have HL : Hid (nLo lo = l') := hl'
  clear hh' hl'
  go_wp2
  go_ret
  rw [HH.out, HL.out]
  exact ⟨rfl, hm⟩

theorem method57 (a : Addr) (w : World) : (method 228 73 (.pointer (some a)) "Uint64").run Try.prog w = .ok (57, .pointer (some a)) w := by kernel_rfl
set_option maxRecDepth 100000 in
set_option maxHeartbeats 1000000 in
theorem rand25 (bp br : Nat) (hi lo : Int) (w : World) (hl0 : 0 ≤ lo) (hl : lo ≤ 18446744073709551615)
    (c0 : w.cell? ⟨bp, 0, none⟩ = some (.int .u64 hi)) (c1 : w.cell? ⟨bp, 1, none⟩ = some (.int .u64 lo)) (f0 : w.frozen? ⟨bp, 0, none⟩ = false) (f1 : w.frozen? ⟨bp, 1, none⟩ = false)
    (cr : w.cell? ⟨br, 0, none⟩ = some (.iface 73 (.pointer (some ⟨bp, 0, none⟩)))) :
    Calls Try.prog 25 #[.pointer (some ⟨br, 0, none⟩)] w fun e w' => e = .returned (.int .u64 (outI (nHi hi lo) (nLo lo))) ∧ Moved bp (nHi hi lo) (nLo lo) w w' := by
  have hme := fun w => method57 ⟨bp, 0, none⟩ w
  go_enter Try.func25, Try.ntmps25
  go_wp2_with fail
  refine (pcg57 bp hi lo _ hl0 hl c0 c1 f0 f1).mono ?_
  rintro e w' ⟨rfl, hm⟩
  have HM : Hid (Moved bp (nHi hi lo) (nLo lo) w w') := hm
  clear hm
  go_wp2
  go_ret
  exact ⟨rfl, HM.out⟩

/-! ### The generator in memory -/
/-- A Rand at block br over a PCG at block bp, whose state is the number s. -/
def RandAt (bp br : Nat) (s : Nat) (w : World) : Prop :=
  w.cell? ⟨bp, 0, none⟩ = some (.int .u64 ((s / 18446744073709551616 : Nat) : Int)) ∧ w.cell? ⟨bp, 1, none⟩ = some (.int .u64 ((s % 18446744073709551616 : Nat) : Int)) ∧
  w.frozen? ⟨bp, 0, none⟩ = false ∧ w.frozen? ⟨bp, 1, none⟩ = false ∧ w.cell? ⟨br, 0, none⟩ = some (.iface 73 (.pointer (some ⟨bp, 0, none⟩)))
/-- The generator's step on the number. -/
def stepS (s : Nat) : Nat := (s * 47026247687942121848144207491837523525 + 117397592171526113268558934119004209487) % 340282366920938463463374607431768211456

theorem nLo_step (s : Nat) : nLo ((s % 18446744073709551616 : Nat) : Int) = ((stepS s % 18446744073709551616 : Nat) : Int) := by
  unfold nLo stepS; omega
theorem nHi_mod (P Q R : Int) :
    ((P / 18446744073709551616 + (Q % 18446744073709551616 + R % 18446744073709551616) % 18446744073709551616) % 18446744073709551616 + 6364136223846793005 + (P % 18446744073709551616 + 1442695040888963407) / 18446744073709551616) % 18446744073709551616
      = (Q + R + 6364136223846793005 + (P + 1442695040888963407) / 18446744073709551616) % 18446744073709551616 := by omega
theorem step_div (h l : Nat) :
    stepS (h * 18446744073709551616 + l) / 18446744073709551616 = (h * 4865540595714422341 + l * 2549297995355413924 + 6364136223846793005 + (l * 4865540595714422341 + 1442695040888963407) / 18446744073709551616) % 18446744073709551616 := by
  unfold stepS
  rw [show (340282366920938463463374607431768211456 : Nat) = 18446744073709551616 * 18446744073709551616 from by decide, Nat.mod_mul_right_div_self]
  have e : ((h * 18446744073709551616 + l) * 47026247687942121848144207491837523525 + 117397592171526113268558934119004209487) / 18446744073709551616
      = h * 2549297995355413924 * 18446744073709551616 + (h * 4865540595714422341 + l * 2549297995355413924 + 6364136223846793005 + (l * 4865540595714422341 + 1442695040888963407) / 18446744073709551616) := by omega
  rw [e, Nat.mul_add_mod_self_right]
theorem nHi_step (s : Nat) : nHi ((s / 18446744073709551616 : Nat) : Int) ((s % 18446744073709551616 : Nat) : Int) = ((stepS s / 18446744073709551616 : Nat) : Int) := by
  have h1 := step_div (s / 18446744073709551616) (s % 18446744073709551616)
  rw [Nat.div_add_mod' s 18446744073709551616] at h1
  rw [h1]
  unfold nHi
  simp only [IntKind.wrap_u64]
  rw [nHi_mod]
  clear h1
  generalize s / 18446744073709551616 = h
  generalize s % 18446744073709551616 = l
  simp only [Int.natCast_emod, Int.natCast_add, Int.natCast_mul, Int.natCast_ediv]
  rfl

/-! ### uint64n at n = 300000000001 -/
/-- The number drawn in the state t, and the two halves of its product with n. -/
def outS (t : Nat) : Int := outI ((t / 18446744073709551616 : Nat) : Int) ((t % 18446744073709551616 : Nat) : Int)
def hiS (t : Nat) : Int := outS t * 300000000001 / 18446744073709551616
def loS (t : Nat) : Int := outS t * 300000000001 % 18446744073709551616
/-- Is the state's draw refused? -/
def badS (t : Nat) : Prop := loS t < 273648062470

theorem RandAt.moved {bp br s : Nat} {w w' : World} (h : RandAt bp br s w) (hne : bp ≠ br) (hm : Moved bp (nHi ((s / 18446744073709551616 : Nat) : Int) ((s % 18446744073709551616 : Nat) : Int)) (nLo ((s % 18446744073709551616 : Nat) : Int)) w w') : RandAt bp br (stepS s) w' := by
  obtain ⟨n, rfl⟩ := hm
  obtain ⟨c0, c1, f0, f1, cr⟩ := h
  rw [nHi_step, nLo_step]
  refine ⟨?_, ?_, ?_, ?_, ?_⟩ <;> simp [go_sem, c0, c1, f0, f1, cr]
theorem Moved.below {bp B : Nat} {hi lo : Int} {w w' : World} (hm : Moved bp hi lo w w') (hB : B ≤ bp) : Below B w w' := by
  obtain ⟨n, rfl⟩ := hm
  have h0 : Below B w (w.drewN n) := below_drewN (Below.refl _ _) n
  exact (h0.setCell hB _).setCell hB _
theorem Moved.size {bp : Nat} {hi lo : Int} {w w' : World} (hm : Moved bp hi lo w w') : w'.heap.size = w.heap.size := by
  obtain ⟨n, rfl⟩ := hm
  simp

/-- (*Rand).Uint64 over the state s. -/
theorem draw25 (bp br s : Nat) (w : World) (h : RandAt bp br s w) (hne : bp ≠ br) :
    Calls Try.prog 25 #[.pointer (some ⟨br, 0, none⟩)] w fun e w' => e = .returned (.int .u64 (outS (stepS s))) ∧ RandAt bp br (stepS s) w' ∧ Below bp w w' := by
  have h' := h
  obtain ⟨c0, c1, f0, f1, cr⟩ := h
  refine (rand25 bp br _ _ w (by omega) (by omega) c0 c1 f0 f1 cr).mono fun e w' hh => ?_
  obtain ⟨he, hm⟩ := hh
  refine ⟨?_, h'.moved hne hm, hm.below (Nat.le_refl _)⟩
  rw [he, nHi_step, nLo_step]
  rfl

/-- What the draws come to, m of them at most. -/
def drawF : Nat → Nat → Int
  | 0, _ => 0
  | m + 1, s => if loS (stepS s) < 273648062470 then drawF m (stepS s) else hiS (stepS s)
/-- Within m draws one is not refused. -/
def EndsIn : Nat → Nat → Prop
  | 0, _ => False
  | m + 1, s => loS (stepS s) < 273648062470 → EndsIn m (stepS s)
theorem outS_range (t : Nat) : 0 ≤ outS t ∧ outS t ≤ 18446744073709551615 := outI_range _ _
theorem loS_range (t : Nat) : 0 ≤ loS t ∧ loS t ≤ 18446744073709551615 := by unfold loS; omega
theorem hiS_range (t : Nat) : 0 ≤ hiS t ∧ hiS t ≤ 300000000000 := by have := outS_range t; unfold hiS; omega
theorem drawF_range : ∀ m s, 0 ≤ drawF m s ∧ drawF m s ≤ 300000000000
  | 0, s => by unfold drawF; omega
  | m + 1, s => by
    have h1 := drawF_range m (stepS s)
    have h2 := hiS_range (stepS s)
    unfold drawF
    split <;> assumption

theorem mulS (t : Nat) (w : World) : Calls Try.prog 26 #[.int .u64 (outS t), .int .u64 300000000001] w fun e w' => e = .returned (.tuple #[.int .u64 (hiS t), .int .u64 (loS t)]) ∧ w = w' :=
  mulI (outS t) 300000000001 (outS_range t).1 (outS_range t).2 (by decide) (by decide) w
theorem no_pow2 : (bits BinOp.and IntKind.u64 300000000001 300000000000 == 0) = false := by decide +kernel
theorem ends_pos {m s : Nat} (h : EndsIn m s) : ∃ k, m = k + 1 := by
  cases m with
  | zero => exact h.elim
  | succ k => exact ⟨k, rfl⟩
theorem drawF_bad {k s : Nat} (h : loS (stepS s) < 273648062470) : drawF (k + 1) s = drawF k (stepS s) := by simp [drawF, h]
theorem drawF_good {k s : Nat} (h : ¬ loS (stepS s) < 273648062470) : drawF (k + 1) s = hiS (stepS s) := by simp [drawF, h]

end Go.Proofs.Qxb6608800a
