import Derived.Test.Qxb6613712aDoorRank
namespace Go.Proofs.Qxb6613712aDoor
open Go.RowKit

set_option maxHeartbeats 1000000 in
theorem bytes13 (g id role other : ByteArray) (w : World) (hg : g.size ≤ maxLen) (hi : id.size ≤ maxLen) (hr : role.size ≤ maxLen) (ho : other.size ≤ maxLen) :
    Calls Tryd.prog 13 #[.string g, .string id, .string role, .string other] w fun e w' => ∃ b, e = .returned (.bool b) ∧ (g.size ≤ 65536 → id.size ≤ 65536 → role.size ≤ 65536 → other.size ≤ 65536 → b = true) ∧ w = w' := by
  unfold maxLen at hg hi hr ho
  by_cases hall : g.size ≤ 65536 ∧ id.size ≤ 65536 ∧ role.size ≤ 65536 ∧ other.size ≤ 65536
  · obtain ⟨h1, h2, h3, h4⟩ := hall
    go_enter Tryd.func13, Tryd.ntmps13
    go_wp2
    go_ret
    exact ⟨_, rfl, fun _ _ _ _ => rfl, rfl⟩
  · have HA : Hid (¬ (g.size ≤ 65536 ∧ id.size ≤ 65536 ∧ role.size ≤ 65536 ∧ other.size ≤ 65536)) := hall
    clear hall
    go_enter Tryd.func13, Tryd.ntmps13
    go_wp2
    all_goals
      go_ret
      exact ⟨_, rfl, fun p1 p2 p3 p4 => (HA.out ⟨p1, p2, p3, p4⟩).elim, rfl⟩

set_option maxHeartbeats 1000000 in
theorem sys_big (g id role other : ByteArray) (w : World) (hg : g.size ≤ maxLen) (hi : id.size ≤ maxLen) (hr : role.size ≤ maxLen) (ho : other.size ≤ maxLen)
    (h : 65536 < g.size ∨ 65536 < id.size ∨ 65536 < role.size ∨ 65536 < other.size) :
    Calls Tryd.prog 6 #[.string g, .string id, .string role, .string other] w fun e w' => e = .returned (.bool true) ∧ w = w' := by
  have HB : Hid (Calls Tryd.prog 13 #[.string g, .string id, .string role, .string other] w fun e w' => ∃ b, e = .returned (.bool b) ∧ (g.size ≤ 65536 → id.size ≤ 65536 → role.size ≤ 65536 → other.size ≤ 65536 → b = true) ∧ w = w') := bytes13 g id role other w hg hi hr ho
  unfold maxLen at hg hi hr ho
  by_cases h1 : 65536 < g.size
  · go_enter Tryd.func6, Tryd.ntmps6
    go_wp2_with fail
    refine HB.out.mono ?_
    rintro e w' ⟨b, rfl, _, rfl⟩
    cases b
    all_goals
      go_wp2
      go_ret
      exact ⟨rfl, rfl⟩
  by_cases h2 : 65536 < id.size
  · go_enter Tryd.func6, Tryd.ntmps6
    go_wp2_with fail
    refine HB.out.mono ?_
    rintro e w' ⟨b, rfl, _, rfl⟩
    cases b
    all_goals
      go_wp2
      go_ret
      exact ⟨rfl, rfl⟩
  by_cases h3 : 65536 < role.size
  · go_enter Tryd.func6, Tryd.ntmps6
    go_wp2_with fail
    refine HB.out.mono ?_
    rintro e w' ⟨b, rfl, _, rfl⟩
    cases b
    all_goals
      go_wp2
      go_ret
      exact ⟨rfl, rfl⟩
  · have h4 : 65536 < other.size := by omega
    go_enter Tryd.func6, Tryd.ntmps6
    go_wp2_with fail
    refine HB.out.mono ?_
    rintro e w' ⟨b, rfl, _, rfl⟩
    cases b
    all_goals
      go_wp2
      go_ret
      exact ⟨rfl, rfl⟩

set_option maxHeartbeats 2000000 in
theorem sys_small (bm : Nat) (g id role other : ByteArray) (w : World) (hg : g.size ≤ 65536) (hi : id.size ≤ 65536) (hr : role.size ≤ 65536) (ho : other.size ≤ 65536)
    (hc : w.cell? ⟨0, 0, none⟩ = some (.map (some bm))) (lr : LooksUp bm w role) (lo : LooksUp bm w other) (la : LooksUp bm w adminS) (lm : LooksUp bm w memberS) (lw : LooksUp bm w ownerS) :
    Calls Tryd.prog 6 #[.string g, .string id, .string role, .string other] w fun e w' => e = .returned (.bool true) ∧ w = w' := by
  have HB : Hid (Calls Tryd.prog 13 #[.string g, .string id, .string role, .string other] w fun e w' => ∃ b, e = .returned (.bool b) ∧ (g.size ≤ 65536 → id.size ≤ 65536 → role.size ≤ 65536 → other.size ≤ 65536 → b = true) ∧ w = w') :=
    bytes13 g id role other w (by unfold maxLen; omega) (by unfold maxLen; omega) (by unfold maxLen; omega) (by unfold maxLen; omega)
  by_cases he : id.toList = g.toList
  · have q : (id.toList == g.toList) = true := beq_iff_eq.2 he
    have SM : Hid (Calls Tryd.prog 12 #[.string g, .string id, .string memberS] w fun e w' => e = .returned (.bool false) ∧ w = w') := sys_yes false bm g id memberS w hc lm la q (by rw [rk_member]; decide)
    have SO : Hid (Calls Tryd.prog 12 #[.string g, .string id, .string ownerS] w fun e w' => e = .returned (.bool true) ∧ w = w') := sys_yes true bm g id ownerS w hc lw la q (by rw [rk_owner]; decide)
    by_cases h2 : 2 ≤ rk role
    · have SR : Hid (Calls Tryd.prog 12 #[.string g, .string id, .string role] w fun e w' => e = .returned (.bool true) ∧ w = w') := sys_yes true bm g id role w hc lr la q (by simpa using h2)
      have IR : Hid (Calls Tryd.prog 8 #[.string role] w fun e w' => e = .returned (.bool true) ∧ w = w') := isRole8 true bm role w hc lr (by simp; omega)
      by_cases h3 : rk role ≤ rk other
      · have AL : Hid (Calls Tryd.prog 9 #[.string other, .string role] w fun e w' => e = .returned (.bool true) ∧ w = w') := atLeast9 true bm other role w hc lo lr (by simpa using h3)
        have SX : Hid (Calls Tryd.prog 12 #[.string g, .string id, .string other] w fun e w' => e = .returned (.bool true) ∧ w = w') := sys_yes true bm g id other w hc lo la q (by simp; omega)
        clear hc lr lo la lm lw he h2 h3
        go_enter Tryd.func6, Tryd.ntmps6
        go_wp2_with fail
        refine HB.out.mono ?_
        rintro e w' ⟨b, rfl, hb, rfl⟩
        obtain rfl := hb hg hi hr ho
        go_wp2_with fail
        refine SR.out.mono ?_
        rintro e w' ⟨rfl, rfl⟩
        go_wp2_with fail
        refine AL.out.mono ?_
        rintro e w' ⟨rfl, rfl⟩
        go_wp2_with fail
        refine SX.out.mono ?_
        rintro e w' ⟨rfl, rfl⟩
        go_wp2_with fail
        refine IR.out.mono ?_
        rintro e w' ⟨rfl, rfl⟩
        go_wp2_with fail
        refine SM.out.mono ?_
        rintro e w' ⟨rfl, rfl⟩
        go_wp2_with fail
        refine SO.out.mono ?_
        rintro e w' ⟨rfl, rfl⟩
        go_wp2
        go_ret
        exact ⟨rfl, rfl⟩
      · have AL : Hid (Calls Tryd.prog 9 #[.string other, .string role] w fun e w' => e = .returned (.bool false) ∧ w = w') := atLeast9 false bm other role w hc lo lr (by simpa using h3)
        clear hc lr lo la lm lw he h2 h3
        go_enter Tryd.func6, Tryd.ntmps6
        go_wp2_with fail
        refine HB.out.mono ?_
        rintro e w' ⟨b, rfl, hb, rfl⟩
        obtain rfl := hb hg hi hr ho
        go_wp2_with fail
        refine SR.out.mono ?_
        rintro e w' ⟨rfl, rfl⟩
        go_wp2_with fail
        refine AL.out.mono ?_
        rintro e w' ⟨rfl, rfl⟩
        go_wp2_with fail
        refine IR.out.mono ?_
        rintro e w' ⟨rfl, rfl⟩
        go_wp2_with fail
        refine SM.out.mono ?_
        rintro e w' ⟨rfl, rfl⟩
        go_wp2_with fail
        refine SO.out.mono ?_
        rintro e w' ⟨rfl, rfl⟩
        go_wp2
        go_ret
        exact ⟨rfl, rfl⟩
    · have SR : Hid (Calls Tryd.prog 12 #[.string g, .string id, .string role] w fun e w' => e = .returned (.bool false) ∧ w = w') := sys_yes false bm g id role w hc lr la q (by simpa using h2)
      clear hc lr lo la lm lw he h2
      go_enter Tryd.func6, Tryd.ntmps6
      go_wp2_with fail
      refine HB.out.mono ?_
      rintro e w' ⟨b, rfl, hb, rfl⟩
      obtain rfl := hb hg hi hr ho
      go_wp2_with fail
      refine SR.out.mono ?_
      rintro e w' ⟨rfl, rfl⟩
      go_wp2_with fail
      refine SM.out.mono ?_
      rintro e w' ⟨rfl, rfl⟩
      go_wp2_with fail
      refine SO.out.mono ?_
      rintro e w' ⟨rfl, rfl⟩
      go_wp2
      go_ret
      exact ⟨rfl, rfl⟩
  · have q : (id.toList == g.toList) = false := beq_eq_false_iff_ne.2 he
    have SR : Hid (Calls Tryd.prog 12 #[.string g, .string id, .string role] w fun e w' => e = .returned (.bool false) ∧ w = w') := sys_no g id role w q
    have SM : Hid (Calls Tryd.prog 12 #[.string g, .string id, .string memberS] w fun e w' => e = .returned (.bool false) ∧ w = w') := sys_no g id memberS w q
    have SO : Hid (Calls Tryd.prog 12 #[.string g, .string id, .string ownerS] w fun e w' => e = .returned (.bool false) ∧ w = w') := sys_no g id ownerS w q
    clear hc lr lo la lm lw he
    go_enter Tryd.func6, Tryd.ntmps6
    go_wp2_with fail
    refine HB.out.mono ?_
    rintro e w' ⟨b, rfl, hb, rfl⟩
    obtain rfl := hb hg hi hr ho
    go_wp2_with fail
    refine SR.out.mono ?_
    rintro e w' ⟨rfl, rfl⟩
    go_wp2_with fail
    refine SM.out.mono ?_
    rintro e w' ⟨rfl, rfl⟩
    go_wp2_with fail
    refine SO.out.mono ?_
    rintro e w' ⟨rfl, rfl⟩
    go_wp2
    go_ret
    exact ⟨rfl, rfl⟩

theorem sys_walk (bm : Nat) (g id role other : ByteArray) (w : World) (hg : g.size ≤ maxLen) (hi : id.size ≤ maxLen) (hr : role.size ≤ maxLen) (ho : other.size ≤ maxLen)
    (hc : w.cell? ⟨0, 0, none⟩ = some (.map (some bm))) (lr : LooksUp bm w role) (lo : LooksUp bm w other) (la : LooksUp bm w adminS) (lm : LooksUp bm w memberS) (lw : LooksUp bm w ownerS) :
    Calls Tryd.prog 6 #[.string g, .string id, .string role, .string other] w fun e w' => e = .returned (.bool true) ∧ w = w' := by
  by_cases hbig : 65536 < g.size ∨ 65536 < id.size ∨ 65536 < role.size ∨ 65536 < other.size
  · exact sys_big g id role other w hg hi hr ho hbig
  · exact sys_small bm g id role other w (by omega) (by omega) (by omega) (by omega) hc lr lo la lm lw
end Go.Proofs.Qxb6613712aDoor
