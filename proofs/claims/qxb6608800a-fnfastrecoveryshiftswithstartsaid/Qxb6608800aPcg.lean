/- PLAIN: a congruential generator modulo a power of two, its multiplier 1 modulo 4 and its increment odd, comes from every state to every state (full period). No Go in sight. -/
namespace Go.Proofs.Qxb6608800a.Pcg

/-- One step of a congruential generator: s * m + c modulo n. -/
def step (n m c s : Nat) : Nat := (s * m + c) % n
def iter (n m c : Nat) : Nat → Nat → Nat
  | 0, s => s
  | k + 1, s => iter n m c k (step n m c s)

theorem iter_zero (n m c s : Nat) : iter n m c 0 s = s := rfl
theorem iter_succ (n m c k s : Nat) : iter n m c (k + 1) s = iter n m c k (step n m c s) := rfl
theorem iter_add (n m c : Nat) (b a s : Nat) : iter n m c (a + b) s = iter n m c b (iter n m c a s) := by
  induction a generalizing s with
  | zero => rw [Nat.zero_add]; rfl
  | succ a ih => rw [Nat.succ_add]; exact ih (step n m c s)

theorem comp_mod (a c x y n : Nat) (h : x % n = y % n) : (a * x + c) % n = (a * y + c) % n := by
  rw [Nat.add_mod, Nat.mul_mod, h, ← Nat.mul_mod, ← Nat.add_mod]

theorem sq1 (p q s : Nat) : (1 + 4 * p * q) * ((1 + 4 * p * q) * s) = (1 + 8 * p * (q + 2 * p * (q * q))) * s := by
  rw [← Nat.mul_assoc]
  congr 1
  simp only [Nat.mul_add, Nat.add_mul, Nat.mul_one, Nat.one_mul]
  have e1 : 4 * p * q * (4 * p * q) = 16 * (p * (p * (q * q))) := by
    simp only [Nat.mul_assoc, Nat.mul_left_comm, Nat.mul_comm]
  have e2 : 8 * p * (2 * p * (q * q)) = 16 * (p * (p * (q * q))) := by
    simp only [Nat.mul_assoc, Nat.mul_left_comm, Nat.mul_comm]
  have e3 : 4 * p * q = 4 * (p * q) := Nat.mul_assoc ..
  have e4 : 8 * p * q = 8 * (p * q) := Nat.mul_assoc ..
  omega

theorem sq2 (p q r : Nat) : (1 + 4 * p * q) * (p * (1 + 2 * r)) + p * (1 + 2 * r) = 2 * p * (1 + 2 * (r + p * q + 2 * (p * q * r))) := by
  simp only [Nat.mul_add, Nat.add_mul, Nat.mul_one, Nat.one_mul]
  have e1 : 4 * p * q * p = 4 * (p * (p * q)) := by simp only [Nat.mul_assoc, Nat.mul_left_comm, Nat.mul_comm]
  have e2 : 4 * p * q * (p * (2 * r)) = 8 * (p * (p * (q * r))) := by simp only [Nat.mul_assoc, Nat.mul_left_comm, Nat.mul_comm]
  have e3 : p * (2 * r) = 2 * (p * r) := by simp only [Nat.mul_left_comm]
  have e4 : 2 * p * (2 * r) = 4 * (p * r) := by simp only [Nat.mul_assoc, Nat.mul_left_comm, Nat.mul_comm]
  have e5 : 2 * p * (2 * (p * q)) = 4 * (p * (p * q)) := by simp only [Nat.mul_assoc, Nat.mul_left_comm, Nat.mul_comm]
  have e6 : 2 * p * (2 * (2 * (p * q * r))) = 8 * (p * (p * (q * r))) := by simp only [Nat.mul_assoc, Nat.mul_left_comm, Nat.mul_comm]
  omega

theorem affine (n m c qm rc : Nat) (hm : m = 1 + 4 * qm) (hc : c = 1 + 2 * rc) (k : Nat) :
    ∃ q r, ∀ s, iter n m c (2 ^ k) s % n = ((1 + 4 * 2 ^ k * q) * s + 2 ^ k * (1 + 2 * r)) % n := by
  induction k with
  | zero =>
    refine ⟨qm, rc, fun s => ?_⟩
    show ((s * m + c) % n) % n = _
    rw [Nat.mod_mod, Nat.mul_comm s m, hm, hc]
    simp
  | succ k ih =>
    obtain ⟨q, r, h⟩ := ih
    refine ⟨q + 2 * 2 ^ k * (q * q), r + 2 ^ k * q + 2 * (2 ^ k * q * r), fun s => ?_⟩
    rw [show 2 ^ (k + 1) = 2 ^ k + 2 ^ k from by rw [Nat.pow_succ]; omega, iter_add, h,
      comp_mod _ _ _ _ n (h s), Nat.mul_add, Nat.add_assoc, sq1, sq2,
      show 2 ^ k + 2 ^ k = 2 * 2 ^ k from by omega, show 4 * (2 * 2 ^ k) = 8 * 2 ^ k from by omega]

/-- FULL PERIOD, modulo a power of two: from every state every residue modulo 2^k is reached. -/
theorem reach (m c qm rc K : Nat) (hm : m = 1 + 4 * qm) (hc : c = 1 + 2 * rc) (t : Nat) (k : Nat) (hk : k ≤ K) (s : Nat) :
    ∃ j, iter (2 ^ K) m c j s % 2 ^ k = t % 2 ^ k := by
  induction k generalizing s with
  | zero => exact ⟨0, by simp [Nat.mod_one]⟩
  | succ k ih =>
    obtain ⟨j, hj⟩ := ih (by omega) s
    obtain ⟨q, r, h⟩ := affine (2 ^ K) m c qm rc hm hc k
    generalize hx : iter (2 ^ K) m c j s = x at hj
    by_cases he : x % 2 ^ (k + 1) = t % 2 ^ (k + 1)
    · exact ⟨j, by rw [hx]; exact he⟩
    · refine ⟨j + 2 ^ k, ?_⟩
      rw [iter_add, hx]
      have hd : 2 ^ (k + 1) ∣ 2 ^ K := Nat.pow_dvd_pow 2 hk
      have h1 := h x
      have h2 : iter (2 ^ K) m c (2 ^ k) x % 2 ^ (k + 1) = ((1 + 4 * 2 ^ k * q) * x + 2 ^ k * (1 + 2 * r)) % 2 ^ (k + 1) := by
        rw [← Nat.mod_mod_of_dvd _ hd, h1, Nat.mod_mod_of_dvd _ hd]
      rw [h2]
      have e : (1 + 4 * 2 ^ k * q) * x + 2 ^ k * (1 + 2 * r) = x + 2 ^ k + 2 ^ (k + 1) * (2 * (q * x) + r) := by
        rw [Nat.pow_succ]
        simp only [Nat.mul_add, Nat.add_mul, Nat.mul_one, Nat.one_mul]
        have e1 : 4 * 2 ^ k * q * x = 4 * (2 ^ k * (q * x)) := by simp only [Nat.mul_assoc]
        have e2 : 2 ^ k * 2 * (2 * (q * x)) = 4 * (2 ^ k * (q * x)) := by rw [Nat.mul_assoc, Nat.mul_left_comm, Nat.mul_left_comm (2 ^ k) 2]; omega
        have e3 : 2 ^ k * (2 * r) = 2 ^ k * 2 * r := by rw [Nat.mul_assoc]
        omega
      rw [e, Nat.add_mul_mod_self_left]
      rw [Nat.pow_succ] at he ⊢
      have hp : 0 < 2 ^ k := Nat.two_pow_pos k
      generalize 2 ^ k = p at he hj hp ⊢
      -- x = t modulo p, x ≠ t modulo 2p
      have a1 := Nat.mod_mul_right_mod x p 2
      have a2 := Nat.mod_mul_right_mod t p 2
      have b1 : x % (p * 2) < p * 2 := Nat.mod_lt _ (by omega)
      have b2 : t % (p * 2) < p * 2 := Nat.mod_lt _ (by omega)
      rw [Nat.add_mod, Nat.mod_eq_of_lt (show p < p * 2 from by omega)]
      generalize hX : x % (p * 2) = X at *
      generalize hT : t % (p * 2) = T at *
      have c1 : X % p = T % p := by rw [a1, a2, hj]
      have d1 : X % p = if X < p then X else X - p := by
        split
        · exact Nat.mod_eq_of_lt ‹_›
        · rw [Nat.mod_eq_sub_mod (by omega), Nat.mod_eq_of_lt (by omega)]
      have d2 : T % p = if T < p then T else T - p := by
        split
        · exact Nat.mod_eq_of_lt ‹_›
        · rw [Nat.mod_eq_sub_mod (by omega), Nat.mod_eq_of_lt (by omega)]
      rw [d1, d2] at c1
      by_cases hXp : X < p
      · rw [Nat.mod_eq_of_lt (by omega)]
        rw [if_pos hXp] at c1
        split at c1 <;> omega
      · rw [Nat.mod_eq_sub_mod (by omega), Nat.mod_eq_of_lt (by omega)]
        rw [if_neg hXp] at c1
        split at c1 <;> omega

theorem step_lt (n m c s : Nat) (hn : 0 < n) : step n m c s < n := Nat.mod_lt _ hn
theorem iter_lt (n m c : Nat) (hn : 0 < n) : ∀ j s, s < n → iter n m c j s < n
  | 0, _, h => h
  | j + 1, s, _ => iter_lt n m c hn j (step n m c s) (step_lt n m c s hn)
/-- From every state below 2^K every state below 2^K is reached. -/
theorem reach_all (m c qm rc K : Nat) (hm : m = 1 + 4 * qm) (hc : c = 1 + 2 * rc) (t s : Nat) (ht : t < 2 ^ K) (hs : s < 2 ^ K) : ∃ j, iter (2 ^ K) m c j s = t := by
  obtain ⟨j, hj⟩ := reach m c qm rc K hm hc t K (Nat.le_refl _) s
  rw [Nat.mod_eq_of_lt (iter_lt _ m c (Nat.two_pow_pos K) j s hs), Nat.mod_eq_of_lt ht] at hj
  exact ⟨j, hj⟩
end Go.Proofs.Qxb6608800a.Pcg
