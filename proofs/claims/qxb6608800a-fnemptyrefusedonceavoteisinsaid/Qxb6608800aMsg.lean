import Derived.Test.Qxb6608800aReach
import Derived.LoopTactic
import Derived.Deep.LoopGhost
import Derived.Deep.Cut
import Derived.Below
import Derived.OwnWalk
import Derived.WalkLawsBesides
namespace Go.Proofs.Qxb6608800a
open Go.RowKit

/-- A struct literal runs to some cells, the same in every world. -/
theorem build_some (t : TypeId) (parts : Array (Nat × Value)) (h : (Try.prog.built t parts.toList).isSome = true) :
    ∃ cs, ∀ w, (Instr.build t parts).run Try.prog w = .ok (.agg cs) w := by
  obtain ⟨cs, hc⟩ := Option.isSome_iff_exists.1 h
  exact ⟨cs, fun w => run_build w t parts cs hc⟩
theorem vote_some (r : Int) : ∃ cs, ∀ w, (Instr.build 46 #[(1, .int .u64 r)]).run Try.prog w = .ok (.agg cs) w := build_some 46 _ (by kernel_rfl)
theorem block_some (r : Int) : ∃ cs, ∀ w, (Instr.build 65 #[(0, .int .u64 r)]).run Try.prog w = .ok (.agg cs) w := build_some 65 _ (by kernel_rfl)
theorem req_some (r : Int) : ∃ cs, ∀ w, (Instr.build 48 #[(0, .int .u64 r)]).run Try.prog w = .ok (.agg cs) w := build_some 48 _ (by kernel_rfl)

def lenB (l : Nat) : Bool := decide (l ≤ 1048576)
set_option maxHeartbeats 400000 in
theorem bytes10 (x0 x2 x7 : Bool) (x1 x3 x5 x6 x8 : Int) (a : Option Addr) (l c : Nat) (w : World) (hl : l ≤ maxLen) :
    Calls Try.prog 10 #[.bool x0, .int .u64 x1, .bool x2, .int .u64 x3, .slice a l c, .int .i64 x5, .int .u64 x6, .bool x7, .int .u64 x8] w fun e w' => e = .returned (.bool (lenB l)) ∧ w = w' := by
  unfold maxLen at hl
  by_cases h1 : l ≤ 1048576
  · have e : lenB l = true := by simp [lenB, h1]
    rw [e]
    go_enter Try.func10, Try.ntmps10
    go_wp2
    go_ret
    exact ⟨rfl, rfl⟩
  · have e : lenB l = false := by simp [lenB, h1]
    rw [e]
    go_enter Try.func10, Try.ntmps10
    go_wp2
    go_ret
    exact ⟨rfl, rfl⟩

/-! ### (Message).empty, ZZempty -/
/-- A Message as a value; as cells. -/
def msgC (v b : Option Addr) (s : Option Addr) (n c : Nat) (r : Option Addr) : Array Value := #[.pointer v, .pointer b, .slice s n c, .pointer r]
def emptyB (v b : Option Addr) (n : Nat) : Bool := v.isNone && (n == 0) && b.isNone
set_option maxHeartbeats 400000 in
theorem empty17 (v b s : Option Addr) (n c : Nat) (r : Option Addr) (w : World) :
    Calls Try.prog 17 #[.agg #[.pointer v, .pointer b, .slice s n c, .pointer r]] w fun e w' => e = .returned (.bool (emptyB v b n)) ∧ w.alloc (.cells #[.pointer v, .pointer b, .slice s n c, .pointer r] 34) = w' := by
  go_enter Try.func17, Try.ntmps17
  go_wp2
  all_goals
    go_ret
    refine ⟨?_, ?_⟩ <;> simp_all [emptyB]

/-- 'ZZempty', the answer named. -/
theorem empty12 (E : Bool) (v b s : Option Addr) (n c : Nat) (r : Option Addr) (w : World) (hE : emptyB v b n = E) :
    Calls Try.prog 12 #[.agg #[.pointer v, .pointer b, .slice s n c, .pointer r]] w fun e w' => e = .returned (.bool E) ∧
      (w.alloc (.cells #[.pointer v, .pointer b, .slice s n c, .pointer r] 34)).alloc (.cells #[.pointer v, .pointer b, .slice s n c, .pointer r] 34) = w' := by
  subst hE
  go_enter Try.func12, Try.ntmps12
  go_wp2_with (go_at_call 17; refine (empty17 _ _ _ _ _ _ _).mono ?_; rintro e w' ⟨rfl, rfl⟩)
  go_ret
  exact ⟨rfl, rfl⟩

/-! ### zzVotes -/
/-- A slice of n votes: it is empty, or its first n cells lie at the head of a row (its block from B on), each a pointer. -/
def VotesAt (B : Nat) (w : World) (s : Option Addr) (n : Nat) : Prop := n = 0 ∨ ∃ g, B ≤ g ∧ s = some ⟨g, 0, none⟩ ∧ ∀ i, i < n → ∃ p, w.cell? ⟨g, i, none⟩ = some (.pointer p)
theorem VotesAt.later {B : Nat} {w w' : World} {s : Option Addr} {n : Nat} (h : VotesAt B w s n) (hb : Below w.heap.size w w') : VotesAt B w' s n := by
  rcases h with h | ⟨g, hg, hs, hc⟩
  · exact Or.inl h
  · refine Or.inr ⟨g, hg, hs, fun i hi => ?_⟩
    obtain ⟨p, hp⟩ := hc i hi
    exact ⟨p, cell_later hb hp⟩
theorem VotesAt.setCell {B : Nat} {w : World} {s : Option Addr} {n : Nat} (h : VotesAt B w s n) {a : Addr} (ha : a.block < B) (u : Value) : VotesAt B (w.setCell a u) s n := by
  rcases h with h | ⟨g, hg, hs, hc⟩
  · exact Or.inl h
  · refine Or.inr ⟨g, hg, hs, fun i hi => ?_⟩
    obtain ⟨p, hp⟩ := hc i hi
    refine ⟨p, ?_⟩
    rw [World.cell?_of_block (w := w) (Below.heap_setCell w a u g (by omega))]
    exact hp
theorem VotesAt.alloc {B : Nat} {w : World} {s : Option Addr} {n : Nat} (h : VotesAt B w s n) (o : Obj) : VotesAt B (w.alloc o) s n :=
  h.later ((Below.refl _ _).alloc (Nat.le_refl _) _)
theorem VotesAt.low {B B' : Nat} {w : World} {s : Option Addr} {n : Nat} (h : VotesAt B w s n) (hB : B' ≤ B) : VotesAt B' w s n := by
  rcases h with h | ⟨g, hg, hs, hc⟩
  · exact Or.inl h
  · exact Or.inr ⟨g, Nat.le_trans hB hg, hs, hc⟩
theorem votes_nil (w : World) : Calls Try.prog 16 #[.slice none 0 0] w fun e w' => e = .returned (.slice none 0 0) ∧ w = w' := by
  have q23 : ∀ (w : World) (a : Option Addr) (n c n' c' : Nat), (binOp .eql 23 (.slice a n c) (.slice none n' c')).run Try.prog w = .ok (.bool a.isNone) w := fun w a n c n' c' => Lib.run_eql_slice_nil w _ _ a n c n' c' Try.underlying23
  go_enter Try.func16, Try.ntmps16
  go_wp2
  go_ret
  exact ⟨rfl, rfl⟩
theorem info29 : (Try.prog.info? 29).map (fun i => (i.zero, i.size, i.bytes)) = some (some (.pointer none), 1, 8) := by kernel_rfl
set_option maxHeartbeats 1000000 in
theorem votes_some (x : Addr) (len cap : Nat) (Z : Nat → Int) (w : World) (hlen : len ≤ 65536)
    (hc : len = 0 ∨ ∃ b off, x = ⟨b, off, none⟩ ∧ ∀ i, i < len → w.cell? ⟨b, off + i, none⟩ = some (.int .u64 (Z i))) :
    Calls Try.prog 16 #[.slice (some x) len cap] w fun e w' => ∃ s, e = .returned (.slice s len len) ∧ VotesAt w.heap.size w' s len ∧ Below w.heap.size w w' := by
  have q23 : ∀ (w : World) (a : Option Addr) (n c n' c' : Nat), (binOp .eql 23 (.slice a n c) (.slice none n' c')).run Try.prog w = .ok (.bool a.isNone) w := fun w a n c n' c' => Lib.run_eql_slice_nil w _ _ a n c n' c' Try.underlying23
  obtain ⟨i0, hi, hz0, hz1, hz2⟩ := info_parts info29
  have HC : Hid (len = 0 ∨ ∃ b off, x = ⟨b, off, none⟩ ∧ ∀ i, i < len → w.cell? ⟨b, off + i, none⟩ = some (.int .u64 (Z i))) := hc
  clear hc
  go_enter Try.func16, Try.ntmps16
  go_wp2_with (at_make; refine wpList_make_full _ rfl _ _ 31 rfl w.heap.size 29 i0 (.pointer none) 1 Try.underlying31 hi hz0 hz1 _ _ _ _ len rfl rfl rfl rfl ?b1 ?b2 ?b3 ?_)
  case b1 => rw [hz2]; omega
  case b2 => unfold maxLen; omega
  case b3 => exact Nat.le_refl _
  intro w1 hown hgrow
  have hb1 : Below w.heap.size w w1 := (Below.refl _ _).grown hgrow (Nat.le_refl _) (fun k h => by cases h)
  have hptr : ∀ u ∈ (madeCells #[Value.pointer none] len).toList, ∃ p, u = Value.pointer p := by
    intro u hu
    rw [toList_madeCells_one] at hu
    exact ⟨none, List.eq_of_mem_replicate hu⟩
  have R0 : Hid (∃ xs, w1.ownsRow w.heap.size 29 1 (.slice (some ⟨w.heap.size, 0, none⟩) len len) len xs ∧ (∀ u ∈ xs, ∃ p, u = Value.pointer p) ∧ Below w.heap.size w w1) := ⟨_, hown, hptr, hb1⟩
  clear hown hgrow hb1 hptr
  go_wp2
  go_loopg [4] len (fun g i wr => ∃ k : Nat, k ≤ len ∧ g = len - k ∧ i = .int .i64 k ∧ Hid (∃ xs, wr.ownsRow w.heap.size 29 1 (.slice (some ⟨w.heap.size, 0, none⟩) len len) len xs ∧ (∀ u ∈ xs, ∃ p, u = Value.pointer p) ∧ Below w.heap.size w wr))
  case atStart => exact ⟨0, Nat.zero_le _, rfl, rfl, R0⟩
  case round =>
    obtain ⟨k, hk, hgk, rfl, R⟩ := hrel
    have HGK : Hid (gk = len - k) := hgk
    clear hgk R0
    by_cases hlt : k < len
    · rcases HC.out with hC | ⟨b, off, rfl, hC⟩
      · omega
      obtain ⟨xs, hown, hptr, hb⟩ := R.out
      have hcr := cell_later hb (hC k hlt)
      have hsz : w.heap.size < wr.heap.size := (hown.lt _ rfl).2
      obtain ⟨p, hp⟩ : ∃ p, wr.cell? ⟨w.heap.size, k, none⟩ = some (.pointer p) := by
        have hl : xs.length = len := by simpa using hown.1
        have := hown.cellAt k (by omega)
        rw [List.getElem?_eq_getElem (by omega)] at this
        obtain ⟨p, hp⟩ := hptr _ (List.getElem_mem (show k < xs.length by omega))
        exact ⟨p, by rw [this, hp]⟩
      have hfr := hown.frozenAt k
      obtain ⟨cs, hcs⟩ := vote_some (Z k)
      have R1 : Hid (∃ xs, ((wr.setCell ⟨w.heap.size, k, none⟩ (.pointer (some ⟨wr.heap.size, 0, none⟩))).alloc (.cells cs 46)).ownsRow w.heap.size 29 1 (.slice (some ⟨w.heap.size, 0, none⟩) len len) len xs ∧ (∀ u ∈ xs, ∃ p, u = Value.pointer p) ∧ Below w.heap.size w ((wr.setCell ⟨w.heap.size, k, none⟩ (.pointer (some ⟨wr.heap.size, 0, none⟩))).alloc (.cells cs 46))) := by
        refine ⟨_, (hown.stored k _).1.alloc _, ?_, (hb.setCell (by simp) _).alloc (by simp; omega) _⟩
        intro u hu
        rcases List.mem_or_eq_of_mem_set hu with h | h
        · exact hptr u h
        · exact ⟨_, h⟩
      have HCS : Hid (∀ w, (Instr.build 46 #[(1, .int .u64 (Z k))]).run Try.prog w = .ok (.agg cs) w) := hcs
      clear hcs hC R hown hptr hb
      go_wp2_with (refine wpList_build_as rfl 46 _ rfl cs ?_ ?_; (· simp only [List.map_toArray, List.map_cons, List.map_nil]; exact HCS.out _))
      go_roundg (len - (k + 1))
      case measure => have := HGK.out; omega
      case rel => exact ⟨k + 1, by omega, rfl, by go_num, R1⟩
    · go_wp2
      go_ret
      obtain ⟨xs, hown, hptr, hb⟩ := R.out
      refine ⟨_, rfl, ?_, hb⟩
      by_cases hn : len = 0
      · exact Or.inl hn
      refine Or.inr ⟨_, Nat.le_refl _, rfl, fun i hi => ?_⟩
      have hl : xs.length = len := by simpa using hown.1
      have := hown.cellAt i (by omega)
      rw [List.getElem?_eq_getElem (by omega)] at this
      obtain ⟨p, hp⟩ := hptr _ (List.getElem_mem (show i < xs.length by omega))
      exact ⟨p, by rw [this, hp]⟩

/-- What the walk is told of the slice that came in. -/
def RoundsAt (w : World) (a : Option Addr) (len cap : Nat) (Z : Nat → Int) : Prop :=
  (a = none ∧ len = 0 ∧ cap = 0) ∨ ∃ x, a = some x ∧ (len = 0 ∨ ∃ b off, x = ⟨b, off, none⟩ ∧ ∀ i, i < len → w.cell? ⟨b, off + i, none⟩ = some (.int .u64 (Z i)))
theorem RoundsAt.later {w w' : World} {a : Option Addr} {len cap : Nat} {Z : Nat → Int} (h : RoundsAt w a len cap Z) (hb : Below w.heap.size w w') : RoundsAt w' a len cap Z := by
  rcases h with h | ⟨x, hx, h⟩
  · exact Or.inl h
  · refine Or.inr ⟨x, hx, ?_⟩
    rcases h with h | ⟨b, off, he, hc⟩
    · exact Or.inl h
    · exact Or.inr ⟨b, off, he, fun i hi => cell_later hb (hc i hi)⟩
theorem votes16 (a : Option Addr) (len cap : Nat) (Z : Nat → Int) (w : World) (hlen : len ≤ 65536) (h : RoundsAt w a len cap Z) :
    Calls Try.prog 16 #[.slice a len cap] w fun e w' => ∃ s c, e = .returned (.slice s len c) ∧ VotesAt w.heap.size w' s len ∧ Below w.heap.size w w' := by
  rcases h with ⟨rfl, rfl, rfl⟩ | ⟨x, rfl, h⟩
  · refine (votes_nil w).mono fun e w' hh => ?_
    obtain ⟨rfl, rfl⟩ := hh
    exact ⟨_, _, rfl, Or.inl rfl, Below.refl _ _⟩
  · refine (votes_some x len cap Z w hlen h).mono fun e w' hh => ?_
    obtain ⟨s, he, hv, hb⟩ := hh
    exact ⟨_, _, he, hv, hb⟩

theorem bcell {W w1 : World} (hb : Below W.heap.size W w1) : (∀ b o, b < W.heap.size → w1.cell? ⟨b, o, none⟩ = W.cell? ⟨b, o, none⟩) ∧ (∀ b o, b < W.heap.size → w1.frozen? ⟨b, o, none⟩ = W.frozen? ⟨b, o, none⟩) :=
  ⟨fun b o h => hb.cell (p := ⟨b, o, none⟩) h, fun b o h => hb.frozen (p := ⟨b, o, none⟩) h⟩

theorem below_a {w0 w : World} (h : Below w0.heap.size w0 w) (o : Obj) : Below w0.heap.size w0 (w.alloc o) := h.alloc h.size o
theorem below_s {w0 w : World} (h : Below w0.heap.size w0 w) {a : Addr} (ha : w0.heap.size ≤ a.block) (u : Value) : Below w0.heap.size w0 (w.setCell a u) := h.setCell ha u

set_option maxRecDepth 100000 in
set_option maxHeartbeats 4000000 in
/-- zzMessage. -/
theorem msg11 (hv hb hr : Bool) (vr br rr : Int) (a : Option Addr) (len cap : Nat) (Z : Nat → Int) (w : World) (hlen : len ≤ 65536) (h : RoundsAt w a len cap Z) :
    Calls Try.prog 11 #[.bool hv, .int .u64 vr, .bool hb, .int .u64 br, .slice a len cap, .bool hr, .int .u64 rr] w fun e w' =>
      ∃ v b s c r, e = .returned (.agg #[.pointer v, .pointer b, .slice s len c, .pointer r]) ∧ VotesAt w.heap.size w' s len ∧ Below w.heap.size w w' := by
  obtain ⟨cv, hcv⟩ := vote_some vr
  obtain ⟨cb, hcb⟩ := block_some br
  obtain ⟨cr, hcr⟩ := req_some rr
  have HV : Hid (∀ w, (Instr.build 46 #[(1, .int .u64 vr)]).run Try.prog w = .ok (.agg cv) w) := hcv
  have HB : Hid (∀ w, (Instr.build 65 #[(0, .int .u64 br)]).run Try.prog w = .ok (.agg cb) w) := hcb
  have HQ : Hid (∀ w, (Instr.build 48 #[(0, .int .u64 rr)]).run Try.prog w = .ok (.agg cr) w) := hcr
  have HR : Hid (RoundsAt w a len cap Z) := h
  clear hcv hcb hcr h
  cases hr
  · cases hv
    · cases hb
      · go_enter Try.func11, Try.ntmps11
        go_wp2_with (first | (refine wpList_build_as rfl 46 _ rfl cv ?_ ?_; (· simp only [List.map_toArray, List.map_cons, List.map_nil]; exact HV.out _)) | (refine wpList_build_as rfl 65 _ rfl cb ?_ ?_; (· simp only [List.map_toArray, List.map_cons, List.map_nil]; exact HB.out _)))
        refine (votes16 a len cap Z _ hlen ?hR).mono ?_
        case hR => exact HR.out.later (below_a (below_a (Below.refl _ _) _) _)
        rintro e w1 ⟨s, c, rfl, hvt, hbl⟩
        obtain ⟨hc, hf⟩ := bcell hbl
        have hz : w.heap.size + 1 < w1.heap.size := by have := hbl.size; simp at this; omega
        have hz0 : w.heap.size < w1.heap.size := by omega
        have HVT : Hid (VotesAt (w.heap.size + 2) w1 s len) := hvt.low (by simp)
        have HBL : Hid (Below w.heap.size w w1) := (below_a (below_a (Below.refl _ _) _) _).trans (hbl.mono (by simp; omega))
        have q0 : w1.cell? ⟨w.heap.size, 0, none⟩ = some (.pointer none) := (hc _ _ (by simp; omega)).trans (by simp [go_sem])
        have q1 : w1.cell? ⟨w.heap.size, 1, none⟩ = some (.pointer none) := (hc _ _ (by simp; omega)).trans (by simp [go_sem])
        have q2 : w1.cell? ⟨w.heap.size, 2, none⟩ = some (.slice none 0 0) := (hc _ _ (by simp; omega)).trans (by simp [go_sem])
        have q3 : w1.cell? ⟨w.heap.size, 3, none⟩ = some (.pointer none) := (hc _ _ (by simp; omega)).trans (by simp [go_sem])
        have p0 : w1.cell? ⟨w.heap.size + 1, 0, none⟩ = some (.pointer none) := (hc _ _ (by simp)).trans (by simp [go_sem])
        have p1 : w1.cell? ⟨w.heap.size + 1, 1, none⟩ = some (.pointer none) := (hc _ _ (by simp)).trans (by simp [go_sem])
        have p2 : w1.cell? ⟨w.heap.size + 1, 2, none⟩ = some (.slice none 0 0) := (hc _ _ (by simp)).trans (by simp [go_sem])
        have p3 : w1.cell? ⟨w.heap.size + 1, 3, none⟩ = some (.pointer none) := (hc _ _ (by simp)).trans (by simp [go_sem])
        have f0 : ∀ o, w1.frozen? ⟨w.heap.size, o, none⟩ = false := fun o => (hf _ _ (by simp; omega)).trans (by simp [go_sem])
        have f1 : ∀ o, w1.frozen? ⟨w.heap.size + 1, o, none⟩ = false := fun o => (hf _ _ (by simp)).trans (by simp [go_sem])
        clear hvt hbl hc hf
        go_wp2
        refine bodyPost_ret (v := .agg #[.pointer none, .pointer none, .slice s len c, .pointer none]) (by simp [results, Try.results11, go_sem, q0, q1, q2, q3]) rfl ⟨none, none, s, c, none, rfl, ?_, ?_⟩
        · refine VotesAt.low ?_ (show w.heap.size ≤ w.heap.size + 2 by omega)
          repeat (first | with_reducible exact HVT.out | with_reducible refine VotesAt.setCell ?_ (by show _ < _; simp) _ | with_reducible refine VotesAt.alloc ?_ _)
        · repeat (first | with_reducible exact HBL.out | with_reducible refine below_s ?_ (by show _ ≤ _; simp) _ | with_reducible refine below_a ?_ _)
      · go_enter Try.func11, Try.ntmps11
        go_wp2_with (first | (refine wpList_build_as rfl 46 _ rfl cv ?_ ?_; (· simp only [List.map_toArray, List.map_cons, List.map_nil]; exact HV.out _)) | (refine wpList_build_as rfl 65 _ rfl cb ?_ ?_; (· simp only [List.map_toArray, List.map_cons, List.map_nil]; exact HB.out _)))
        refine (votes16 a len cap Z _ hlen ?hR).mono ?_
        case hR => exact HR.out.later (below_a (below_a (below_a (Below.refl _ _) _) _) _)
        rintro e w1 ⟨s, c, rfl, hvt, hbl⟩
        obtain ⟨hc, hf⟩ := bcell hbl
        have hz : w.heap.size + 1 < w1.heap.size := by have := hbl.size; simp at this; omega
        have hz0 : w.heap.size < w1.heap.size := by omega
        have HVT : Hid (VotesAt (w.heap.size + 2) w1 s len) := hvt.low (by simp)
        have HBL : Hid (Below w.heap.size w w1) := (below_a (below_a (below_a (Below.refl _ _) _) _) _).trans (hbl.mono (by simp; omega))
        have q0 : w1.cell? ⟨w.heap.size, 0, none⟩ = some (.pointer none) := (hc _ _ (by simp; omega)).trans (by simp [go_sem])
        have q1 : w1.cell? ⟨w.heap.size, 1, none⟩ = some (.pointer none) := (hc _ _ (by simp; omega)).trans (by simp [go_sem])
        have q2 : w1.cell? ⟨w.heap.size, 2, none⟩ = some (.slice none 0 0) := (hc _ _ (by simp; omega)).trans (by simp [go_sem])
        have q3 : w1.cell? ⟨w.heap.size, 3, none⟩ = some (.pointer none) := (hc _ _ (by simp; omega)).trans (by simp [go_sem])
        have p0 : w1.cell? ⟨w.heap.size + 1, 0, none⟩ = some (.pointer none) := (hc _ _ (by simp)).trans (by simp [go_sem])
        have p1 : w1.cell? ⟨w.heap.size + 1, 1, none⟩ = some (.pointer (some ⟨w.heap.size + 1 + 1, 0, none⟩)) := (hc _ _ (by simp)).trans (by simp [go_sem])
        have p2 : w1.cell? ⟨w.heap.size + 1, 2, none⟩ = some (.slice none 0 0) := (hc _ _ (by simp)).trans (by simp [go_sem])
        have p3 : w1.cell? ⟨w.heap.size + 1, 3, none⟩ = some (.pointer none) := (hc _ _ (by simp)).trans (by simp [go_sem])
        have f0 : ∀ o, w1.frozen? ⟨w.heap.size, o, none⟩ = false := fun o => (hf _ _ (by simp; omega)).trans (by simp [go_sem])
        have f1 : ∀ o, w1.frozen? ⟨w.heap.size + 1, o, none⟩ = false := fun o => (hf _ _ (by simp)).trans (by simp [go_sem])
        clear hvt hbl hc hf
        go_wp2
        refine bodyPost_ret (v := .agg #[.pointer none, .pointer (some ⟨w.heap.size + 1 + 1, 0, none⟩), .slice s len c, .pointer none]) (by simp [results, Try.results11, go_sem, q0, q1, q2, q3]) rfl ⟨none, (some ⟨w.heap.size + 1 + 1, 0, none⟩), s, c, none, rfl, ?_, ?_⟩
        · refine VotesAt.low ?_ (show w.heap.size ≤ w.heap.size + 2 by omega)
          repeat (first | with_reducible exact HVT.out | with_reducible refine VotesAt.setCell ?_ (by show _ < _; simp) _ | with_reducible refine VotesAt.alloc ?_ _)
        · repeat (first | with_reducible exact HBL.out | with_reducible refine below_s ?_ (by show _ ≤ _; simp) _ | with_reducible refine below_a ?_ _)
    · cases hb
      · go_enter Try.func11, Try.ntmps11
        go_wp2_with (first | (refine wpList_build_as rfl 46 _ rfl cv ?_ ?_; (· simp only [List.map_toArray, List.map_cons, List.map_nil]; exact HV.out _)) | (refine wpList_build_as rfl 65 _ rfl cb ?_ ?_; (· simp only [List.map_toArray, List.map_cons, List.map_nil]; exact HB.out _)))
        refine (votes16 a len cap Z _ hlen ?hR).mono ?_
        case hR => exact HR.out.later (below_a (below_a (below_a (Below.refl _ _) _) _) _)
        rintro e w1 ⟨s, c, rfl, hvt, hbl⟩
        obtain ⟨hc, hf⟩ := bcell hbl
        have hz : w.heap.size + 1 < w1.heap.size := by have := hbl.size; simp at this; omega
        have hz0 : w.heap.size < w1.heap.size := by omega
        have HVT : Hid (VotesAt (w.heap.size + 2) w1 s len) := hvt.low (by simp)
        have HBL : Hid (Below w.heap.size w w1) := (below_a (below_a (below_a (Below.refl _ _) _) _) _).trans (hbl.mono (by simp; omega))
        have q0 : w1.cell? ⟨w.heap.size, 0, none⟩ = some (.pointer none) := (hc _ _ (by simp; omega)).trans (by simp [go_sem])
        have q1 : w1.cell? ⟨w.heap.size, 1, none⟩ = some (.pointer none) := (hc _ _ (by simp; omega)).trans (by simp [go_sem])
        have q2 : w1.cell? ⟨w.heap.size, 2, none⟩ = some (.slice none 0 0) := (hc _ _ (by simp; omega)).trans (by simp [go_sem])
        have q3 : w1.cell? ⟨w.heap.size, 3, none⟩ = some (.pointer none) := (hc _ _ (by simp; omega)).trans (by simp [go_sem])
        have p0 : w1.cell? ⟨w.heap.size + 1, 0, none⟩ = some (.pointer (some ⟨w.heap.size + 1 + 1, 0, none⟩)) := (hc _ _ (by simp)).trans (by simp [go_sem])
        have p1 : w1.cell? ⟨w.heap.size + 1, 1, none⟩ = some (.pointer none) := (hc _ _ (by simp)).trans (by simp [go_sem])
        have p2 : w1.cell? ⟨w.heap.size + 1, 2, none⟩ = some (.slice none 0 0) := (hc _ _ (by simp)).trans (by simp [go_sem])
        have p3 : w1.cell? ⟨w.heap.size + 1, 3, none⟩ = some (.pointer none) := (hc _ _ (by simp)).trans (by simp [go_sem])
        have f0 : ∀ o, w1.frozen? ⟨w.heap.size, o, none⟩ = false := fun o => (hf _ _ (by simp; omega)).trans (by simp [go_sem])
        have f1 : ∀ o, w1.frozen? ⟨w.heap.size + 1, o, none⟩ = false := fun o => (hf _ _ (by simp)).trans (by simp [go_sem])
        clear hvt hbl hc hf
        go_wp2
        refine bodyPost_ret (v := .agg #[.pointer (some ⟨w.heap.size + 1 + 1, 0, none⟩), .pointer none, .slice s len c, .pointer none]) (by simp [results, Try.results11, go_sem, q0, q1, q2, q3]) rfl ⟨(some ⟨w.heap.size + 1 + 1, 0, none⟩), none, s, c, none, rfl, ?_, ?_⟩
        · refine VotesAt.low ?_ (show w.heap.size ≤ w.heap.size + 2 by omega)
          repeat (first | with_reducible exact HVT.out | with_reducible refine VotesAt.setCell ?_ (by show _ < _; simp) _ | with_reducible refine VotesAt.alloc ?_ _)
        · repeat (first | with_reducible exact HBL.out | with_reducible refine below_s ?_ (by show _ ≤ _; simp) _ | with_reducible refine below_a ?_ _)
      · go_enter Try.func11, Try.ntmps11
        go_wp2_with (first | (refine wpList_build_as rfl 46 _ rfl cv ?_ ?_; (· simp only [List.map_toArray, List.map_cons, List.map_nil]; exact HV.out _)) | (refine wpList_build_as rfl 65 _ rfl cb ?_ ?_; (· simp only [List.map_toArray, List.map_cons, List.map_nil]; exact HB.out _)))
        refine (votes16 a len cap Z _ hlen ?hR).mono ?_
        case hR => exact HR.out.later (below_a (below_a (below_a (below_a (Below.refl _ _) _) _) _) _)
        rintro e w1 ⟨s, c, rfl, hvt, hbl⟩
        obtain ⟨hc, hf⟩ := bcell hbl
        have hz : w.heap.size + 1 < w1.heap.size := by have := hbl.size; simp at this; omega
        have hz0 : w.heap.size < w1.heap.size := by omega
        have HVT : Hid (VotesAt (w.heap.size + 2) w1 s len) := hvt.low (by simp)
        have HBL : Hid (Below w.heap.size w w1) := (below_a (below_a (below_a (below_a (Below.refl _ _) _) _) _) _).trans (hbl.mono (by simp; omega))
        have q0 : w1.cell? ⟨w.heap.size, 0, none⟩ = some (.pointer none) := (hc _ _ (by simp; omega)).trans (by simp [go_sem])
        have q1 : w1.cell? ⟨w.heap.size, 1, none⟩ = some (.pointer none) := (hc _ _ (by simp; omega)).trans (by simp [go_sem])
        have q2 : w1.cell? ⟨w.heap.size, 2, none⟩ = some (.slice none 0 0) := (hc _ _ (by simp; omega)).trans (by simp [go_sem])
        have q3 : w1.cell? ⟨w.heap.size, 3, none⟩ = some (.pointer none) := (hc _ _ (by simp; omega)).trans (by simp [go_sem])
        have p0 : w1.cell? ⟨w.heap.size + 1, 0, none⟩ = some (.pointer (some ⟨w.heap.size + 1 + 1, 0, none⟩)) := (hc _ _ (by simp)).trans (by simp [go_sem])
        have p1 : w1.cell? ⟨w.heap.size + 1, 1, none⟩ = some (.pointer (some ⟨w.heap.size + 1 + 1 + 1, 0, none⟩)) := (hc _ _ (by simp)).trans (by simp [go_sem])
        have p2 : w1.cell? ⟨w.heap.size + 1, 2, none⟩ = some (.slice none 0 0) := (hc _ _ (by simp)).trans (by simp [go_sem])
        have p3 : w1.cell? ⟨w.heap.size + 1, 3, none⟩ = some (.pointer none) := (hc _ _ (by simp)).trans (by simp [go_sem])
        have f0 : ∀ o, w1.frozen? ⟨w.heap.size, o, none⟩ = false := fun o => (hf _ _ (by simp; omega)).trans (by simp [go_sem])
        have f1 : ∀ o, w1.frozen? ⟨w.heap.size + 1, o, none⟩ = false := fun o => (hf _ _ (by simp)).trans (by simp [go_sem])
        clear hvt hbl hc hf
        go_wp2
        refine bodyPost_ret (v := .agg #[.pointer (some ⟨w.heap.size + 1 + 1, 0, none⟩), .pointer (some ⟨w.heap.size + 1 + 1 + 1, 0, none⟩), .slice s len c, .pointer none]) (by simp [results, Try.results11, go_sem, q0, q1, q2, q3]) rfl ⟨(some ⟨w.heap.size + 1 + 1, 0, none⟩), (some ⟨w.heap.size + 1 + 1 + 1, 0, none⟩), s, c, none, rfl, ?_, ?_⟩
        · refine VotesAt.low ?_ (show w.heap.size ≤ w.heap.size + 2 by omega)
          repeat (first | with_reducible exact HVT.out | with_reducible refine VotesAt.setCell ?_ (by show _ < _; simp) _ | with_reducible refine VotesAt.alloc ?_ _)
        · repeat (first | with_reducible exact HBL.out | with_reducible refine below_s ?_ (by show _ ≤ _; simp) _ | with_reducible refine below_a ?_ _)
  · cases hv
    · cases hb
      · go_enter Try.func11, Try.ntmps11
        go_wp2_with (first | (refine wpList_build_as rfl 46 _ rfl cv ?_ ?_; (· simp only [List.map_toArray, List.map_cons, List.map_nil]; exact HV.out _)) | (refine wpList_build_as rfl 65 _ rfl cb ?_ ?_; (· simp only [List.map_toArray, List.map_cons, List.map_nil]; exact HB.out _)))
        refine (votes16 a len cap Z _ hlen ?hR).mono ?_
        case hR => exact HR.out.later (below_a (below_a (Below.refl _ _) _) _)
        rintro e w1 ⟨s, c, rfl, hvt, hbl⟩
        obtain ⟨hc, hf⟩ := bcell hbl
        have hz : w.heap.size + 1 < w1.heap.size := by have := hbl.size; simp at this; omega
        have hz0 : w.heap.size < w1.heap.size := by omega
        have HVT : Hid (VotesAt (w.heap.size + 2) w1 s len) := hvt.low (by simp)
        have HBL : Hid (Below w.heap.size w w1) := (below_a (below_a (Below.refl _ _) _) _).trans (hbl.mono (by simp; omega))
        have q0 : w1.cell? ⟨w.heap.size, 0, none⟩ = some (.pointer none) := (hc _ _ (by simp; omega)).trans (by simp [go_sem])
        have q1 : w1.cell? ⟨w.heap.size, 1, none⟩ = some (.pointer none) := (hc _ _ (by simp; omega)).trans (by simp [go_sem])
        have q2 : w1.cell? ⟨w.heap.size, 2, none⟩ = some (.slice none 0 0) := (hc _ _ (by simp; omega)).trans (by simp [go_sem])
        have q3 : w1.cell? ⟨w.heap.size, 3, none⟩ = some (.pointer none) := (hc _ _ (by simp; omega)).trans (by simp [go_sem])
        have p0 : w1.cell? ⟨w.heap.size + 1, 0, none⟩ = some (.pointer none) := (hc _ _ (by simp)).trans (by simp [go_sem])
        have p1 : w1.cell? ⟨w.heap.size + 1, 1, none⟩ = some (.pointer none) := (hc _ _ (by simp)).trans (by simp [go_sem])
        have p2 : w1.cell? ⟨w.heap.size + 1, 2, none⟩ = some (.slice none 0 0) := (hc _ _ (by simp)).trans (by simp [go_sem])
        have p3 : w1.cell? ⟨w.heap.size + 1, 3, none⟩ = some (.pointer none) := (hc _ _ (by simp)).trans (by simp [go_sem])
        have f0 : ∀ o, w1.frozen? ⟨w.heap.size, o, none⟩ = false := fun o => (hf _ _ (by simp; omega)).trans (by simp [go_sem])
        have f1 : ∀ o, w1.frozen? ⟨w.heap.size + 1, o, none⟩ = false := fun o => (hf _ _ (by simp)).trans (by simp [go_sem])
        clear hvt hbl hc hf
        go_wp2_with (refine wpList_build_as rfl 48 _ rfl cr ?_ ?_; (· simp only [List.map_toArray, List.map_cons, List.map_nil]; exact HQ.out _))
        refine bodyPost_ret (v := .agg #[.pointer none, .pointer none, .slice s len c, .pointer (some ⟨w1.heap.size, 0, none⟩)]) (by simp [results, Try.results11, go_sem, q0, q1, q2, q3, hz0]) rfl ⟨none, none, s, c, (some ⟨w1.heap.size, 0, none⟩), rfl, ?_, ?_⟩
        · refine VotesAt.low ?_ (show w.heap.size ≤ w.heap.size + 2 by omega)
          repeat (first | with_reducible exact HVT.out | with_reducible refine VotesAt.setCell ?_ (by show _ < _; simp) _ | with_reducible refine VotesAt.alloc ?_ _)
        · repeat (first | with_reducible exact HBL.out | with_reducible refine below_s ?_ (by show _ ≤ _; simp) _ | with_reducible refine below_a ?_ _)
      · go_enter Try.func11, Try.ntmps11
        go_wp2_with (first | (refine wpList_build_as rfl 46 _ rfl cv ?_ ?_; (· simp only [List.map_toArray, List.map_cons, List.map_nil]; exact HV.out _)) | (refine wpList_build_as rfl 65 _ rfl cb ?_ ?_; (· simp only [List.map_toArray, List.map_cons, List.map_nil]; exact HB.out _)))
        refine (votes16 a len cap Z _ hlen ?hR).mono ?_
        case hR => exact HR.out.later (below_a (below_a (below_a (Below.refl _ _) _) _) _)
        rintro e w1 ⟨s, c, rfl, hvt, hbl⟩
        obtain ⟨hc, hf⟩ := bcell hbl
        have hz : w.heap.size + 1 < w1.heap.size := by have := hbl.size; simp at this; omega
        have hz0 : w.heap.size < w1.heap.size := by omega
        have HVT : Hid (VotesAt (w.heap.size + 2) w1 s len) := hvt.low (by simp)
        have HBL : Hid (Below w.heap.size w w1) := (below_a (below_a (below_a (Below.refl _ _) _) _) _).trans (hbl.mono (by simp; omega))
        have q0 : w1.cell? ⟨w.heap.size, 0, none⟩ = some (.pointer none) := (hc _ _ (by simp; omega)).trans (by simp [go_sem])
        have q1 : w1.cell? ⟨w.heap.size, 1, none⟩ = some (.pointer none) := (hc _ _ (by simp; omega)).trans (by simp [go_sem])
        have q2 : w1.cell? ⟨w.heap.size, 2, none⟩ = some (.slice none 0 0) := (hc _ _ (by simp; omega)).trans (by simp [go_sem])
        have q3 : w1.cell? ⟨w.heap.size, 3, none⟩ = some (.pointer none) := (hc _ _ (by simp; omega)).trans (by simp [go_sem])
        have p0 : w1.cell? ⟨w.heap.size + 1, 0, none⟩ = some (.pointer none) := (hc _ _ (by simp)).trans (by simp [go_sem])
        have p1 : w1.cell? ⟨w.heap.size + 1, 1, none⟩ = some (.pointer (some ⟨w.heap.size + 1 + 1, 0, none⟩)) := (hc _ _ (by simp)).trans (by simp [go_sem])
        have p2 : w1.cell? ⟨w.heap.size + 1, 2, none⟩ = some (.slice none 0 0) := (hc _ _ (by simp)).trans (by simp [go_sem])
        have p3 : w1.cell? ⟨w.heap.size + 1, 3, none⟩ = some (.pointer none) := (hc _ _ (by simp)).trans (by simp [go_sem])
        have f0 : ∀ o, w1.frozen? ⟨w.heap.size, o, none⟩ = false := fun o => (hf _ _ (by simp; omega)).trans (by simp [go_sem])
        have f1 : ∀ o, w1.frozen? ⟨w.heap.size + 1, o, none⟩ = false := fun o => (hf _ _ (by simp)).trans (by simp [go_sem])
        clear hvt hbl hc hf
        go_wp2_with (refine wpList_build_as rfl 48 _ rfl cr ?_ ?_; (· simp only [List.map_toArray, List.map_cons, List.map_nil]; exact HQ.out _))
        refine bodyPost_ret (v := .agg #[.pointer none, .pointer (some ⟨w.heap.size + 1 + 1, 0, none⟩), .slice s len c, .pointer (some ⟨w1.heap.size, 0, none⟩)]) (by simp [results, Try.results11, go_sem, q0, q1, q2, q3, hz0]) rfl ⟨none, (some ⟨w.heap.size + 1 + 1, 0, none⟩), s, c, (some ⟨w1.heap.size, 0, none⟩), rfl, ?_, ?_⟩
        · refine VotesAt.low ?_ (show w.heap.size ≤ w.heap.size + 2 by omega)
          repeat (first | with_reducible exact HVT.out | with_reducible refine VotesAt.setCell ?_ (by show _ < _; simp) _ | with_reducible refine VotesAt.alloc ?_ _)
        · repeat (first | with_reducible exact HBL.out | with_reducible refine below_s ?_ (by show _ ≤ _; simp) _ | with_reducible refine below_a ?_ _)
    · cases hb
      · go_enter Try.func11, Try.ntmps11
        go_wp2_with (first | (refine wpList_build_as rfl 46 _ rfl cv ?_ ?_; (· simp only [List.map_toArray, List.map_cons, List.map_nil]; exact HV.out _)) | (refine wpList_build_as rfl 65 _ rfl cb ?_ ?_; (· simp only [List.map_toArray, List.map_cons, List.map_nil]; exact HB.out _)))
        refine (votes16 a len cap Z _ hlen ?hR).mono ?_
        case hR => exact HR.out.later (below_a (below_a (below_a (Below.refl _ _) _) _) _)
        rintro e w1 ⟨s, c, rfl, hvt, hbl⟩
        obtain ⟨hc, hf⟩ := bcell hbl
        have hz : w.heap.size + 1 < w1.heap.size := by have := hbl.size; simp at this; omega
        have hz0 : w.heap.size < w1.heap.size := by omega
        have HVT : Hid (VotesAt (w.heap.size + 2) w1 s len) := hvt.low (by simp)
        have HBL : Hid (Below w.heap.size w w1) := (below_a (below_a (below_a (Below.refl _ _) _) _) _).trans (hbl.mono (by simp; omega))
        have q0 : w1.cell? ⟨w.heap.size, 0, none⟩ = some (.pointer none) := (hc _ _ (by simp; omega)).trans (by simp [go_sem])
        have q1 : w1.cell? ⟨w.heap.size, 1, none⟩ = some (.pointer none) := (hc _ _ (by simp; omega)).trans (by simp [go_sem])
        have q2 : w1.cell? ⟨w.heap.size, 2, none⟩ = some (.slice none 0 0) := (hc _ _ (by simp; omega)).trans (by simp [go_sem])
        have q3 : w1.cell? ⟨w.heap.size, 3, none⟩ = some (.pointer none) := (hc _ _ (by simp; omega)).trans (by simp [go_sem])
        have p0 : w1.cell? ⟨w.heap.size + 1, 0, none⟩ = some (.pointer (some ⟨w.heap.size + 1 + 1, 0, none⟩)) := (hc _ _ (by simp)).trans (by simp [go_sem])
        have p1 : w1.cell? ⟨w.heap.size + 1, 1, none⟩ = some (.pointer none) := (hc _ _ (by simp)).trans (by simp [go_sem])
        have p2 : w1.cell? ⟨w.heap.size + 1, 2, none⟩ = some (.slice none 0 0) := (hc _ _ (by simp)).trans (by simp [go_sem])
        have p3 : w1.cell? ⟨w.heap.size + 1, 3, none⟩ = some (.pointer none) := (hc _ _ (by simp)).trans (by simp [go_sem])
        have f0 : ∀ o, w1.frozen? ⟨w.heap.size, o, none⟩ = false := fun o => (hf _ _ (by simp; omega)).trans (by simp [go_sem])
        have f1 : ∀ o, w1.frozen? ⟨w.heap.size + 1, o, none⟩ = false := fun o => (hf _ _ (by simp)).trans (by simp [go_sem])
        clear hvt hbl hc hf
        go_wp2_with (refine wpList_build_as rfl 48 _ rfl cr ?_ ?_; (· simp only [List.map_toArray, List.map_cons, List.map_nil]; exact HQ.out _))
        refine bodyPost_ret (v := .agg #[.pointer (some ⟨w.heap.size + 1 + 1, 0, none⟩), .pointer none, .slice s len c, .pointer (some ⟨w1.heap.size, 0, none⟩)]) (by simp [results, Try.results11, go_sem, q0, q1, q2, q3, hz0]) rfl ⟨(some ⟨w.heap.size + 1 + 1, 0, none⟩), none, s, c, (some ⟨w1.heap.size, 0, none⟩), rfl, ?_, ?_⟩
        · refine VotesAt.low ?_ (show w.heap.size ≤ w.heap.size + 2 by omega)
          repeat (first | with_reducible exact HVT.out | with_reducible refine VotesAt.setCell ?_ (by show _ < _; simp) _ | with_reducible refine VotesAt.alloc ?_ _)
        · repeat (first | with_reducible exact HBL.out | with_reducible refine below_s ?_ (by show _ ≤ _; simp) _ | with_reducible refine below_a ?_ _)
      · go_enter Try.func11, Try.ntmps11
        go_wp2_with (first | (refine wpList_build_as rfl 46 _ rfl cv ?_ ?_; (· simp only [List.map_toArray, List.map_cons, List.map_nil]; exact HV.out _)) | (refine wpList_build_as rfl 65 _ rfl cb ?_ ?_; (· simp only [List.map_toArray, List.map_cons, List.map_nil]; exact HB.out _)))
        refine (votes16 a len cap Z _ hlen ?hR).mono ?_
        case hR => exact HR.out.later (below_a (below_a (below_a (below_a (Below.refl _ _) _) _) _) _)
        rintro e w1 ⟨s, c, rfl, hvt, hbl⟩
        obtain ⟨hc, hf⟩ := bcell hbl
        have hz : w.heap.size + 1 < w1.heap.size := by have := hbl.size; simp at this; omega
        have hz0 : w.heap.size < w1.heap.size := by omega
        have HVT : Hid (VotesAt (w.heap.size + 2) w1 s len) := hvt.low (by simp)
        have HBL : Hid (Below w.heap.size w w1) := (below_a (below_a (below_a (below_a (Below.refl _ _) _) _) _) _).trans (hbl.mono (by simp; omega))
        have q0 : w1.cell? ⟨w.heap.size, 0, none⟩ = some (.pointer none) := (hc _ _ (by simp; omega)).trans (by simp [go_sem])
        have q1 : w1.cell? ⟨w.heap.size, 1, none⟩ = some (.pointer none) := (hc _ _ (by simp; omega)).trans (by simp [go_sem])
        have q2 : w1.cell? ⟨w.heap.size, 2, none⟩ = some (.slice none 0 0) := (hc _ _ (by simp; omega)).trans (by simp [go_sem])
        have q3 : w1.cell? ⟨w.heap.size, 3, none⟩ = some (.pointer none) := (hc _ _ (by simp; omega)).trans (by simp [go_sem])
        have p0 : w1.cell? ⟨w.heap.size + 1, 0, none⟩ = some (.pointer (some ⟨w.heap.size + 1 + 1, 0, none⟩)) := (hc _ _ (by simp)).trans (by simp [go_sem])
        have p1 : w1.cell? ⟨w.heap.size + 1, 1, none⟩ = some (.pointer (some ⟨w.heap.size + 1 + 1 + 1, 0, none⟩)) := (hc _ _ (by simp)).trans (by simp [go_sem])
        have p2 : w1.cell? ⟨w.heap.size + 1, 2, none⟩ = some (.slice none 0 0) := (hc _ _ (by simp)).trans (by simp [go_sem])
        have p3 : w1.cell? ⟨w.heap.size + 1, 3, none⟩ = some (.pointer none) := (hc _ _ (by simp)).trans (by simp [go_sem])
        have f0 : ∀ o, w1.frozen? ⟨w.heap.size, o, none⟩ = false := fun o => (hf _ _ (by simp; omega)).trans (by simp [go_sem])
        have f1 : ∀ o, w1.frozen? ⟨w.heap.size + 1, o, none⟩ = false := fun o => (hf _ _ (by simp)).trans (by simp [go_sem])
        clear hvt hbl hc hf
        go_wp2_with (refine wpList_build_as rfl 48 _ rfl cr ?_ ?_; (· simp only [List.map_toArray, List.map_cons, List.map_nil]; exact HQ.out _))
        refine bodyPost_ret (v := .agg #[.pointer (some ⟨w.heap.size + 1 + 1, 0, none⟩), .pointer (some ⟨w.heap.size + 1 + 1 + 1, 0, none⟩), .slice s len c, .pointer (some ⟨w1.heap.size, 0, none⟩)]) (by simp [results, Try.results11, go_sem, q0, q1, q2, q3, hz0]) rfl ⟨(some ⟨w.heap.size + 1 + 1, 0, none⟩), (some ⟨w.heap.size + 1 + 1 + 1, 0, none⟩), s, c, (some ⟨w1.heap.size, 0, none⟩), rfl, ?_, ?_⟩
        · refine VotesAt.low ?_ (show w.heap.size ≤ w.heap.size + 2 by omega)
          repeat (first | with_reducible exact HVT.out | with_reducible refine VotesAt.setCell ?_ (by show _ < _; simp) _ | with_reducible refine VotesAt.alloc ?_ _)
        · repeat (first | with_reducible exact HBL.out | with_reducible refine below_s ?_ (by show _ ≤ _; simp) _ | with_reducible refine below_a ?_ _)
end Go.Proofs.Qxb6608800a
