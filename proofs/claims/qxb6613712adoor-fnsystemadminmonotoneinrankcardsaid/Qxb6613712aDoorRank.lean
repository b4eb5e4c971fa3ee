import Derived.Test.Qxb6613712aDoorRows
import Derived.WalkKit
import Derived.WalkSpells
import Derived.WalkLawsBesides
import Derived.Outline
import Derived.OpenShut
import Derived.Below
namespace Go.Proofs.Qxb6613712aDoor
open Go.RowKit

abbrev memberL : List UInt8 := [109, 101, 109, 98, 101, 114]
abbrev adminL : List UInt8 := [97, 100, 109, 105, 110]
abbrev ownerL : List UInt8 := [111, 119, 110, 101, 114]
/-- A role's rank, as the map has it: 0 for what is no role. -/
def rkL (l : List UInt8) : Int := if l = adminL then 2 else if l = memberL then 1 else if l = ownerL then 3 else 0
def rk (s : ByteArray) : Int := rkL s.toList
theorem rkL_range (l : List UInt8) : 0 ≤ rkL l ∧ rkL l ≤ 3 := by unfold rkL; split <;> (try split) <;> (try split) <;> omega
theorem rk_range (s : ByteArray) : 0 ≤ rk s ∧ rk s ≤ 3 := rkL_range _
theorem rkL_inj {a b : List UInt8} (h : rkL a = rkL b) (hp : 0 < rkL a) : a = b := by
  unfold rkL at h hp
  by_cases a1 : a = adminL
  · rw [if_pos a1] at h
    by_cases b1 : b = adminL
    · rw [a1, b1]
    · rw [if_neg b1] at h
      by_cases b2 : b = memberL
      · rw [if_pos b2] at h; omega
      · rw [if_neg b2] at h
        by_cases b3 : b = ownerL
        · rw [if_pos b3] at h; omega
        · rw [if_neg b3] at h; omega
  · rw [if_neg a1] at h hp
    by_cases a2 : a = memberL
    · rw [if_pos a2] at h
      by_cases b1 : b = adminL
      · rw [if_pos b1] at h; omega
      · rw [if_neg b1] at h
        by_cases b2 : b = memberL
        · rw [a2, b2]
        · rw [if_neg b2] at h
          by_cases b3 : b = ownerL
          · rw [if_pos b3] at h; omega
          · rw [if_neg b3] at h; omega
    · rw [if_neg a2] at h hp
      by_cases a3 : a = ownerL
      · rw [if_pos a3] at h
        by_cases b1 : b = adminL
        · rw [if_pos b1] at h; omega
        · rw [if_neg b1] at h
          by_cases b2 : b = memberL
          · rw [if_pos b2] at h; omega
          · rw [if_neg b2] at h
            by_cases b3 : b = ownerL
            · rw [a3, b3]
            · rw [if_neg b3] at h; omega
      · rw [if_neg a3] at hp; omega
theorem rk_inj {r s : ByteArray} (h : rk r = rk s) (hp : 0 < rk r) : r.toList = s.toList := rkL_inj h hp
abbrev adminS : ByteArray := { data := #[97, 100, 109, 105, 110] }
abbrev memberS : ByteArray := { data := #[109, 101, 109, 98, 101, 114] }
abbrev ownerS : ByteArray := { data := #[111, 119, 110, 101, 114] }
theorem rk_admin : rk adminS = 2 := by unfold rk; rw [ByteArray.toList_eq]; rfl
theorem rk_member : rk memberS = 1 := by unfold rk; rw [ByteArray.toList_eq]; rfl
theorem rk_owner : rk ownerS = 3 := by unfold rk; rw [ByteArray.toList_eq]; rfl

/-- What a look-up in the map 'ranks' answers at s. -/
def LooksUp (bm : Nat) (w : World) (s : ByteArray) : Prop := (Instr.lookup 26 (.map (some bm)) (.string s) false).run Tryd.prog w = .ok (.int .i64 (rk s)) w

theorem isRole8 (b : Bool) (bm : Nat) (s : ByteArray) (w : World) (hc : w.cell? ⟨0, 0, none⟩ = some (.map (some bm))) (hl : LooksUp bm w s) (hb : decide (0 < rk s) = b) :
    Calls Tryd.prog 8 #[.string s] w fun e w' => e = .returned (.bool b) ∧ w = w' := by
  subst hb
  unfold LooksUp at hl
  go_enter Tryd.func8, Tryd.ntmps8
  go_wp2
  go_ret
  exact ⟨rfl, rfl⟩
theorem atLeast9 (b : Bool) (bm : Nat) (r s : ByteArray) (w : World) (hc : w.cell? ⟨0, 0, none⟩ = some (.map (some bm))) (hr : LooksUp bm w r) (hs : LooksUp bm w s) (hb : decide (rk s ≤ rk r) = b) :
    Calls Tryd.prog 9 #[.string r, .string s] w fun e w' => e = .returned (.bool b) ∧ w = w' := by
  subst hb
  unfold LooksUp at hr hs
  go_enter Tryd.func9, Tryd.ntmps9
  go_wp2
  go_ret
  exact ⟨rfl, rfl⟩
theorem sys_no (g id role : ByteArray) (w : World) (h : (id.toList == g.toList) = false) :
    Calls Tryd.prog 12 #[.string g, .string id, .string role] w fun e w' => e = .returned (.bool false) ∧ w = w' := by
  go_enter Tryd.func12, Tryd.ntmps12
  go_wp2
  go_ret
  exact ⟨rfl, rfl⟩
theorem sys_yes (b : Bool) (bm : Nat) (g id role : ByteArray) (w : World) (hc : w.cell? ⟨0, 0, none⟩ = some (.map (some bm))) (hr : LooksUp bm w role) (ha : LooksUp bm w adminS) (h : (id.toList == g.toList) = true) (hb : decide (2 ≤ rk role) = b) :
    Calls Tryd.prog 12 #[.string g, .string id, .string role] w fun e w' => e = .returned (.bool b) ∧ w = w' := by
  have H : Hid (Calls Tryd.prog 9 #[.string role, .string adminS] w fun e w' => e = .returned (.bool b) ∧ w = w') := atLeast9 b bm role adminS w hc hr ha (by rw [rk_admin]; exact hb)
  clear hb hr ha hc
  go_enter Tryd.func12, Tryd.ntmps12
  go_wp2_with fail
  refine H.out.mono ?_
  rintro e w' ⟨rfl, rfl⟩
  go_wp2
  go_ret
  exact ⟨rfl, rfl⟩

set_option maxHeartbeats 400000 in
theorem bytes10 (r s : ByteArray) (w : World) (hl : r.size ≤ maxLen) (hm : s.size ≤ maxLen) :
    Calls Tryd.prog 10 #[.string r, .string s] w fun e w' => ∃ b, e = .returned (.bool b) ∧ (r.size ≤ 65536 → s.size ≤ 65536 → b = true) ∧ w = w' := by
  unfold maxLen at hl hm
  by_cases h1 : r.size ≤ 1048576
  · by_cases h2 : r.size + s.size ≤ 1048576
    · go_enter Tryd.func10, Tryd.ntmps10
      go_wp2
      go_ret
      exact ⟨_, rfl, fun _ _ => rfl, rfl⟩
    · go_enter Tryd.func10, Tryd.ntmps10
      go_wp2
      all_goals
        go_ret
        exact ⟨_, rfl, fun _ _ => by omega, rfl⟩
  · go_enter Tryd.func10, Tryd.ntmps10
    go_wp2
    go_ret
    exact ⟨_, rfl, fun _ _ => by omega, rfl⟩

/-! ### FnIsRoleRanksDistinctAndTotal -/
set_option maxHeartbeats 400000 in
theorem ranks_big (r s : ByteArray) (w : World) (hl : r.size ≤ maxLen) (hm : s.size ≤ maxLen) (h : 65536 < r.size ∨ 65536 < s.size) :
    Calls Tryd.prog 4 #[.string r, .string s] w fun e w' => e = .returned (.bool true) ∧ w = w' := by
  have HB : Hid (Calls Tryd.prog 10 #[.string r, .string s] w fun e w' => ∃ b, e = .returned (.bool b) ∧ (r.size ≤ 65536 → s.size ≤ 65536 → b = true) ∧ w = w') := bytes10 r s w hl hm
  unfold maxLen at hl hm
  by_cases h1 : 65536 < r.size
  · go_enter Tryd.func4, Tryd.ntmps4
    go_wp2_with fail
    refine HB.out.mono ?_
    rintro e w' ⟨b, rfl, _, rfl⟩
    cases b
    all_goals
      go_wp2
      go_ret
      exact ⟨rfl, rfl⟩
  · have h2 : 65536 < s.size := by omega
    go_enter Tryd.func4, Tryd.ntmps4
    go_wp2_with fail
    refine HB.out.mono ?_
    rintro e w' ⟨b, rfl, _, rfl⟩
    cases b
    all_goals
      go_wp2
      go_ret
      exact ⟨rfl, rfl⟩

set_option maxHeartbeats 1000000 in
/-- The walk, the four answers named, and whether the two strings are one. -/
theorem ranks_ways (rs sr ir is : Bool) (q : Bool) (bm : Nat) (r s : ByteArray) (w : World) (hl : r.size ≤ 65536) (hm : s.size ≤ 65536)
    (hc : w.cell? ⟨0, 0, none⟩ = some (.map (some bm))) (lr : LooksUp bm w r) (ls : LooksUp bm w s)
    (h1 : decide (rk s ≤ rk r) = rs) (h2 : decide (rk r ≤ rk s) = sr) (h3 : decide (0 < rk r) = ir) (h4 : decide (0 < rk s) = is) (h5 : (r.toList == s.toList) = q)
    (hlaw : (rs, sr, ir, is, q) ∈ [(true, true, true, true, true), (true, true, false, false, true), (true, true, false, false, false), (true, false, true, false, false), (false, true, false, true, false), (true, false, true, true, false), (false, true, true, true, false)]) :
    Calls Tryd.prog 4 #[.string r, .string s] w fun e w' => e = .returned (.bool true) ∧ w = w' := by
  have HB : Hid (Calls Tryd.prog 10 #[.string r, .string s] w fun e w' => ∃ b, e = .returned (.bool b) ∧ (r.size ≤ 65536 → s.size ≤ 65536 → b = true) ∧ w = w') := bytes10 r s w (by unfold maxLen; omega) (by unfold maxLen; omega)
  have A1 : Hid (Calls Tryd.prog 9 #[.string r, .string s] w fun e w' => e = .returned (.bool rs) ∧ w = w') := atLeast9 rs bm r s w hc lr ls h1
  have A2 : Hid (Calls Tryd.prog 9 #[.string s, .string r] w fun e w' => e = .returned (.bool sr) ∧ w = w') := atLeast9 sr bm s r w hc ls lr h2
  have A3 : Hid (Calls Tryd.prog 8 #[.string r] w fun e w' => e = .returned (.bool ir) ∧ w = w') := isRole8 ir bm r w hc lr h3
  have A4 : Hid (Calls Tryd.prog 8 #[.string s] w fun e w' => e = .returned (.bool is) ∧ w = w') := isRole8 is bm s w hc ls h4
  clear h1 h2 h3 h4 hc lr ls
  simp only [List.mem_cons, Prod.mk.injEq, List.not_mem_nil, or_false] at hlaw
  rcases hlaw with ⟨rfl, rfl, rfl, rfl, rfl⟩ | ⟨rfl, rfl, rfl, rfl, rfl⟩ | ⟨rfl, rfl, rfl, rfl, rfl⟩ | ⟨rfl, rfl, rfl, rfl, rfl⟩ | ⟨rfl, rfl, rfl, rfl, rfl⟩ | ⟨rfl, rfl, rfl, rfl, rfl⟩ | ⟨rfl, rfl, rfl, rfl, rfl⟩
  all_goals
    go_enter Tryd.func4, Tryd.ntmps4
    go_wp2_with fail
    refine HB.out.mono ?_
    rintro e w' ⟨b, rfl, hb, rfl⟩
    obtain rfl := hb hl hm
    go_wp2_with fail
    refine A1.out.mono ?_
    rintro e w' ⟨rfl, rfl⟩
    go_wp2_with fail
    refine A2.out.mono ?_
    rintro e w' ⟨rfl, rfl⟩
    go_wp2_with fail
    refine A3.out.mono ?_
    rintro e w' ⟨rfl, rfl⟩
    go_wp2_with fail
    refine A4.out.mono ?_
    rintro e w' ⟨rfl, rfl⟩
    go_wp2
    go_ret
    exact ⟨rfl, rfl⟩

theorem ranks_walk (bm : Nat) (r s : ByteArray) (w : World) (hl : r.size ≤ maxLen) (hm : s.size ≤ maxLen)
    (hc : w.cell? ⟨0, 0, none⟩ = some (.map (some bm))) (lr : LooksUp bm w r) (ls : LooksUp bm w s) :
    Calls Tryd.prog 4 #[.string r, .string s] w fun e w' => e = .returned (.bool true) ∧ w = w' := by
  by_cases hbig : 65536 < r.size ∨ 65536 < s.size
  · exact ranks_big r s w hl hm hbig
  refine ranks_ways _ _ _ _ _ bm r s w (by omega) (by omega) hc lr ls rfl rfl rfl rfl rfl ?_
  have br := rk_range r
  have bs := rk_range s
  by_cases he : r.toList = s.toList
  · have e1 : rk r = rk s := by unfold rk; rw [he]
    rw [show (r.toList == s.toList) = true from beq_iff_eq.2 he, e1]
    by_cases hp : 0 < rk s <;> simp [hp]
  · rw [show (r.toList == s.toList) = false from beq_eq_false_iff_ne.2 he]
    by_cases hr : 0 < rk r
    · have hne : rk r ≠ rk s := fun e => he (rk_inj e hr)
      by_cases hs : 0 < rk s
      · rcases Int.lt_or_gt_of_ne hne with h | h
        · rw [decide_eq_false (show ¬ rk s ≤ rk r by omega), decide_eq_true (show rk r ≤ rk s by omega), decide_eq_true hr, decide_eq_true hs]; simp
        · rw [decide_eq_true (show rk s ≤ rk r by omega), decide_eq_false (show ¬ rk r ≤ rk s by omega), decide_eq_true hr, decide_eq_true hs]; simp
      · rw [decide_eq_true (show rk s ≤ rk r by omega), decide_eq_false (show ¬ rk r ≤ rk s by omega), decide_eq_true hr, decide_eq_false hs]; simp
    · by_cases hs : 0 < rk s
      · rw [decide_eq_false (show ¬ rk s ≤ rk r by omega), decide_eq_true (show rk r ≤ rk s by omega), decide_eq_false hr, decide_eq_true hs]; simp
      · rw [decide_eq_true (show rk s ≤ rk r by omega), decide_eq_true (show rk r ≤ rk s by omega), decide_eq_false hr, decide_eq_false hs]; simp
end Go.Proofs.Qxb6613712aDoor
