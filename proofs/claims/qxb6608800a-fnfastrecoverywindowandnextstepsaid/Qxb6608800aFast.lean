import Derived.Test.Qxb6608800aDraw
namespace Go.Proofs.Qxb6608800a
open Go.RowKit

/-! ### later -/
set_option maxHeartbeats 400000 in
theorem later_no (t d : Int) (w : World) (d0 : 0 ≤ d) (d1 : d ≤ 9223372036854775807) (h : 9223372036854775807 - d < t) :
    Calls Try.prog 21 #[.int .i64 t, .int .i64 d] w fun e w' => e = .returned (.tuple #[.int .i64 0, .bool false]) ∧ w = w' := by
  go_enter Try.func21, Try.ntmps21
  go_wp2
  go_ret2
  exact ⟨rfl, rfl⟩
set_option maxHeartbeats 400000 in
theorem later_yes (t d : Int) (w : World) (t0 : 0 ≤ t) (d0 : 0 ≤ d) (d1 : d ≤ 9223372036854775807) (h : t + d ≤ 9223372036854775807) :
    Calls Try.prog 21 #[.int .i64 t, .int .i64 d] w fun e w' => e = .returned (.tuple #[.int .i64 (t + d), .bool true]) ∧ w = w' := by
  have h' : ¬ 9223372036854775807 - d < t := by omega
  go_enter Try.func21, Try.ntmps21
  go_wp2
  go_ret2
  exact ⟨rfl, rfl⟩

/-! ### Int64N -/
set_option maxHeartbeats 400000 in
theorem int64n22 (bp br : Nat) (u : Int) (w : World) (u0 : 0 ≤ u) (u1 : u ≤ 300000000000)
    (h : Calls Try.prog 23 #[.pointer (some ⟨br, 0, none⟩), .int .u64 300000000001] w fun e w' => e = .returned (.int .u64 u) ∧ Below bp w w') :
    Calls Try.prog 22 #[.pointer (some ⟨br, 0, none⟩), .int .i64 300000000001] w fun e w' => e = .returned (.int .i64 u) ∧ Below bp w w' := by
  have H : Hid (Calls Try.prog 23 #[.pointer (some ⟨br, 0, none⟩), .int .u64 300000000001] w fun e w' => e = .returned (.int .u64 u) ∧ Below bp w w') := h
  clear h
  go_enter Try.func22, Try.ntmps22
  go_wp2_with fail
  refine H.out.mono ?_
  rintro e w' ⟨rfl, hb⟩
  have HB : Hid (Below bp w w') := hb
  clear hb
  go_wp2
  go_ret
  exact ⟨rfl, HB.out⟩

/-! ### fastRecoveryAt -/
/-- Is recovery k from 'start' let, under the jitter u? And when does it run? -/
def okV (start k u : Int) : Bool := decide (k ≤ 30744573) && decide (start + k * 300000000000 + u ≤ 9223372036854775807)
def atV (start k u : Int) : Int := if okV start k u = true then start + k * 300000000000 + u else 0
theorem okV_yes {start k u : Int} (h1 : k ≤ 30744573) (h2 : start + k * 300000000000 + u ≤ 9223372036854775807) : okV start k u = true ∧ atV start k u = start + k * 300000000000 + u := by
  have : okV start k u = true := by simp [okV, h1, h2]
  exact ⟨this, by simp [atV, this]⟩
theorem okV_no {start k u : Int} (h : 30744573 < k ∨ 9223372036854775807 < start + k * 300000000000 + u) : okV start k u = false ∧ atV start k u = 0 := by
  have : okV start k u = false := by simp [okV]; omega
  exact ⟨this, by simp [atV, this]⟩

set_option maxRecDepth 100000 in
set_option maxHeartbeats 1000000 in
theorem fast18 (bp br : Nat) (start k u : Int) (w : World) (s0 : 0 ≤ start) (s1 : start ≤ 9223372036854775807) (k0 : 0 ≤ k) (k1 : k ≤ 18446744073709551615) (u0 : 0 ≤ u) (u1 : u ≤ 300000000000)
    (h : Calls Try.prog 23 #[.pointer (some ⟨br, 0, none⟩), .int .u64 300000000001] w fun e w' => e = .returned (.int .u64 u) ∧ Below bp w w') :
    Calls Try.prog 18 #[.int .i64 start, .int .u64 k, .pointer (some ⟨br, 0, none⟩)] w fun e w' => e = .returned (.tuple #[.int .i64 (atV start k u), .bool (okV start k u)]) ∧ Below bp w w' := by
  have H : Hid (Calls Try.prog 22 #[.pointer (some ⟨br, 0, none⟩), .int .i64 300000000001] w fun e w' => e = .returned (.int .i64 u) ∧ Below bp w w') := int64n22 bp br u w u0 u1 h
  clear h
  by_cases h1 : 30744573 < k
  · obtain ⟨e1, e2⟩ := okV_no (start := start) (k := k) (u := u) (Or.inl h1)
    rw [e1, e2]
    clear e1 e2
    go_enter Try.func18, Try.ntmps18
    go_wp2
    go_ret2
    exact ⟨rfl, Below.refl _ _⟩
  by_cases h2 : 9223372036854775807 - k * 300000000000 < start
  · obtain ⟨e1, e2⟩ := okV_no (start := start) (k := k) (u := u) (Or.inr (by omega))
    rw [e1, e2]
    clear e1 e2
    go_enter Try.func18, Try.ntmps18
    go_wp2_with fail
    refine (later_no start (k * 300000000000) _ (by omega) (by omega) h2).mono ?_
    rintro e w' ⟨rfl, rfl⟩
    go_wp2
    go_ret2
    exact ⟨rfl, Below.refl _ _⟩
  by_cases h3 : 9223372036854775807 - u < start + k * 300000000000
  · obtain ⟨e1, e2⟩ := okV_no (start := start) (k := k) (u := u) (Or.inr (by omega))
    rw [e1, e2]
    clear e1 e2
    go_enter Try.func18, Try.ntmps18
    go_wp2_with fail
    refine (later_yes start (k * 300000000000) _ s0 (by omega) (by omega) (by omega)).mono ?_
    rintro e w' ⟨rfl, rfl⟩
    go_wp2_with fail
    refine H.out.mono ?_
    rintro e w1 ⟨rfl, hb⟩
    have HB : Hid (Below bp w w1) := hb
    clear hb
    go_wp2_with fail
    refine (later_no (start + k * 300000000000) u _ u0 (by omega) h3).mono ?_
    rintro e w2 ⟨rfl, rfl⟩
    go_wp2
    go_ret2
    exact ⟨rfl, HB.out⟩
  · obtain ⟨e1, e2⟩ := okV_yes (start := start) (k := k) (u := u) (by omega) (by omega)
    rw [e1, e2]
    clear e1 e2
    go_enter Try.func18, Try.ntmps18
    go_wp2_with fail
    refine (later_yes start (k * 300000000000) _ s0 (by omega) (by omega) (by omega)).mono ?_
    rintro e w' ⟨rfl, rfl⟩
    go_wp2_with fail
    refine H.out.mono ?_
    rintro e w1 ⟨rfl, hb⟩
    have HB : Hid (Below bp w w1) := hb
    clear hb
    go_wp2_with fail
    refine (later_yes (start + k * 300000000000) u _ (by omega) u0 (by omega) (by omega)).mono ?_
    rintro e w2 ⟨rfl, rfl⟩
    go_wp2
    go_ret2
    exact ⟨rfl, HB.out⟩

theorem pcg20 (s1 s2 : Int) (w : World) : Calls Try.prog 20 #[.int .u64 s1, .int .u64 s2] w fun e w' => e = .returned (.pointer (some ⟨w.heap.size, 0, none⟩)) ∧ w.alloc (.cells #[.int .u64 s1, .int .u64 s2] 82) = w' := by
  go_enter Try.func20, Try.ntmps20
  go_wp2
  go_ret
  exact ⟨rfl, rfl⟩
theorem new19 (a : Addr) (w : World) : Calls Try.prog 19 #[.iface 73 (.pointer (some a))] w fun e w' => e = .returned (.pointer (some ⟨w.heap.size, 0, none⟩)) ∧ w.alloc (.cells #[.iface 73 (.pointer (some a))] 80) = w' := by
  go_enter Try.func19, Try.ntmps19
  go_wp2
  go_ret
  exact ⟨rfl, rfl⟩

set_option maxHeartbeats 1000000 in
/-- ZZfastRecoveryAt: under one pair of seeds one jitter, whatever the start and k. -/
theorem zz13 (x1 x2 : Int) (a0 : 0 ≤ x1) (a1 : x1 ≤ 18446744073709551615) (b0 : 0 ≤ x2) (b1 : x2 ≤ 18446744073709551615) : ∃ u : Int, 0 ≤ u ∧ u ≤ 300000000000 ∧
    ∀ (start k : Int) (w : World), 0 ≤ start → start ≤ 9223372036854775807 → 0 ≤ k → k ≤ 18446744073709551615 →
      Calls Try.prog 13 #[.int .i64 start, .int .u64 k, .int .u64 x1, .int .u64 x2] w fun e w' => e = .returned (.tuple #[.int .i64 (atV start k u), .bool (okV start k u)]) ∧ Below w.heap.size w w' := by
  obtain ⟨n1, rfl⟩ := Int.eq_ofNat_of_zero_le a0
  obtain ⟨n2, rfl⟩ := Int.eq_ofNat_of_zero_le b0
  obtain ⟨u, u0, u1, hu⟩ := draw_any (n1 * 18446744073709551616 + n2)
  refine ⟨u, u0, u1, fun start k w s0 s1 k0 k1 => ?_⟩
  have hrand : RandAt w.heap.size (w.heap.size + 1) (n1 * 18446744073709551616 + n2) ((w.alloc (.cells #[.int .u64 n1, .int .u64 n2] 82)).alloc (.cells #[.iface 73 (.pointer (some ⟨w.heap.size, 0, none⟩))] 80)) := by
    have q1 : (n1 * 18446744073709551616 + n2) / 18446744073709551616 = n1 := by omega
    have q2 : (n1 * 18446744073709551616 + n2) % 18446744073709551616 = n2 := by omega
    unfold RandAt
    rw [q1, q2]
    refine ⟨?_, ?_, ?_, ?_, ?_⟩ <;> simp [go_sem]
  have H : Hid (Calls Try.prog 18 #[.int .i64 start, .int .u64 k, .pointer (some ⟨w.heap.size + 1, 0, none⟩)] ((w.alloc (.cells #[.int .u64 n1, .int .u64 n2] 82)).alloc (.cells #[.iface 73 (.pointer (some ⟨w.heap.size, 0, none⟩))] 80))
      fun e w' => e = .returned (.tuple #[.int .i64 (atV start k u), .bool (okV start k u)]) ∧ Below w.heap.size ((w.alloc (.cells #[.int .u64 n1, .int .u64 n2] 82)).alloc (.cells #[.iface 73 (.pointer (some ⟨w.heap.size, 0, none⟩))] 80)) w') :=
    fast18 w.heap.size (w.heap.size + 1) start k u _ s0 s1 k0 k1 u0 u1 (hu _ _ _ hrand (by omega))
  clear hu hrand
  go_enter Try.func13, Try.ntmps13
  go_wp2_with fail
  refine (pcg20 _ _ _).mono ?_
  rintro e w' ⟨rfl, rfl⟩
  go_wp2_with fail
  refine (new19 _ _).mono ?_
  rintro e w' ⟨rfl, rfl⟩
  go_wp2_with fail
  refine H.out.mono ?_
  rintro e w3 ⟨rfl, hb⟩
  have HB : Hid (Below w.heap.size w w3) := (((Below.refl _ _).alloc (Nat.le_refl _) _).alloc (by simp) _).trans hb
  clear hb H
  go_wp2
  go_ret2
  exact ⟨rfl, HB.out⟩

/-! ### zzWindowOK: it says yes to what fastRecoveryAt answers -/
set_option maxRecDepth 100000 in
set_option maxHeartbeats 1000000 in
theorem win14 (start k u : Int) (w : World) (s0 : 0 ≤ start) (s1 : start ≤ 9223372036854775807) (k0 : 0 ≤ k) (k1 : k ≤ 18446744073709551615) (u0 : 0 ≤ u) (u1 : u ≤ 300000000000) :
    Calls Try.prog 14 #[.int .i64 start, .int .u64 k, .int .i64 (atV start k u), .bool (okV start k u)] w fun e w' => e = .returned (.bool true) ∧ w = w' := by
  by_cases h1 : 30744573 < k
  · obtain ⟨e1, e2⟩ := okV_no (start := start) (k := k) (u := u) (Or.inl h1)
    rw [e1, e2]
    clear e1 e2
    go_enter Try.func14, Try.ntmps14
    go_wp2
    go_ret
    exact ⟨rfl, rfl⟩
  by_cases h2 : 9223372036854775807 - k * 300000000000 < start
  · obtain ⟨e1, e2⟩ := okV_no (start := start) (k := k) (u := u) (Or.inr (by omega))
    rw [e1, e2]
    clear e1 e2
    go_enter Try.func14, Try.ntmps14
    go_wp2
    go_ret
    exact ⟨rfl, rfl⟩
  by_cases h3 : 9223372036854775807 - u < start + k * 300000000000
  · obtain ⟨e1, e2⟩ := okV_no (start := start) (k := k) (u := u) (Or.inr (by omega))
    rw [e1, e2]
    have h4 : 9223371736854775807 < start + k * 300000000000 := by omega
    have h5 : decide (9223371736854775807 < start + k * 300000000000) = true := by simpa using h4
    clear e1 e2
    go_enter Try.func14, Try.ntmps14
    go_wp2
    go_ret
    exact ⟨rfl, rfl⟩
  · obtain ⟨e1, e2⟩ := okV_yes (start := start) (k := k) (u := u) (by omega) (by omega)
    rw [e1, e2]
    clear e1 e2
    have h4 : start + k * 300000000000 ≤ start + k * 300000000000 + u := by omega
    have h5 : start + k * 300000000000 + u - (start + k * 300000000000) ≤ 300000000000 := by omega
    have h6 : decide (start + k * 300000000000 + u - (start + k * 300000000000) ≤ 300000000000) = true := by simpa using h5
    go_enter Try.func14, Try.ntmps14
    go_wp2
    go_ret
    exact ⟨rfl, rfl⟩
end Go.Proofs.Qxb6608800a
