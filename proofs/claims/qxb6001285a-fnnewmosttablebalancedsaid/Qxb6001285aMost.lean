/- newMostTable: the walk. -/
import Derived.Test.Qxb6001285aProg
import Derived.WalkKit
import Derived.WalkSpells
import Derived.WalkLawsBesides
import Derived.Deep.MidRow
import Derived.Deep.CutRange
namespace Go.Proofs.Qxb6001285a
open Go.RowKit
set_option linter.unusedVariables false

theorem info59 : (Try.prog.info? 59).map (fun i => (i.zero, i.size, i.bytes)) = some (some (.agg #[.int .i64 0, .int .i64 0, .int .i64 0, .int .i64 0, .int .i64 0, .int .i64 0]), 6, 48) := by kernel_rfl
theorem info4 : (Try.prog.info? 4).map (fun i => (i.zero, i.size, i.bytes)) = some (some (.bool false), 1, 1) := by kernel_rfl

def mk59 (n : Nat) : Array Value := madeCells #[.int .i64 0, .int .i64 0, .int .i64 0, .int .i64 0, .int .i64 0, .int .i64 0] (n * 6)
def mk4 (n : Nat) : Array Value := madeCells #[.bool false] (n * 1)

theorem make32 (n : Nat) (hn : n ≤ 131072) (w : World) : (Instr.makeSlice 32 (.int .i64 (n : Int)) (.int .i64 (n : Int))).run Try.prog w = .ok (.slice (some ⟨w.heap.size, 0, none⟩) n n) (w.alloc (.cells (mk59 n) 59)) := by
  obtain ⟨i0, hi, hz0, hz1, hz2⟩ := info_parts info59
  have := run_make (P := Try.prog) w 32 59 i0 _ Try.underlying32 hi hz0 .i64 .i64 (n : Int) (n : Int) (by omega) (by omega) (by rw [hz2]; omega) (by omega)
  rw [hz1] at this
  exact this

theorem make31 (n : Nat) (hn : n ≤ 131072) (w : World) : (Instr.makeSlice 31 (.int .i64 (n : Int)) (.int .i64 (n : Int))).run Try.prog w = .ok (.slice (some ⟨w.heap.size, 0, none⟩) n n) (w.alloc (.cells (mk4 n) 4)) := by
  obtain ⟨i0, hi, hz0, hz1, hz2⟩ := info_parts info4
  have := run_make (P := Try.prog) w 31 4 i0 _ Try.underlying31 hi hz0 .i64 .i64 (n : Int) (n : Int) (by omega) (by omega) (by rw [hz2]; omega) (by omega)
  rw [hz1] at this
  exact this

/-- Block g is a row of n cells of type e. -/
def RowSz (w : World) (g e n : Nat) : Prop := ∃ cur, w.heap[g]? = some (.cells cur e (0, 0)) ∧ cur.size = n

/-- What lies in memory while the table is filled. -/
structure Tab (w0 w : World) (gt g0 g1 g2 n bl s : Nat) : Prop where
  tab : w.heap[gt]? = some (.cells #[.slice (some ⟨g0, 0, none⟩) n n, .slice (some ⟨g1, 0, none⟩) bl bl, .int .i64 s, .slice (some ⟨g2, 0, none⟩) bl bl] 56 (0, 0))
  r0 : RowSz w g0 59 (n * 6)
  r1 : RowSz w g1 59 (bl * 6)
  box : w.heap[w0.heap.size]? = some (.cells #[.int .i64 0, .int .i64 0, .int .i64 0, .int .i64 0, .int .i64 0, .int .i64 0] 59 (0, 0))
  res : w.heap[w0.heap.size + 1]? = some (.cells #[.slice none 0 0, .slice none 0 0, .int .i64 0, .slice none 0 0] 56 (0, 0))
  h0 : w0.heap.size + 2 ≤ g0
  h1 : w0.heap.size + 2 ≤ g1
  ht : w0.heap.size + 2 ≤ gt
  below : Below w0.heap.size w0 w

theorem heap_al (w : World) (o : Obj) (k : Nat) : (w.alloc o).heap[k]? = if k = w.heap.size then some o else w.heap[k]? := by
  show (w.heap.push o)[k]? = _
  rw [Array.getElem?_push]
theorem heap_al_lt (w : World) (o : Obj) (k : Nat) (h : k < w.heap.size) : (w.alloc o).heap[k]? = w.heap[k]? := Below.heap_alloc w o k h
theorem heap_al_eq (w : World) (o : Obj) (k : Nat) (h : k = w.heap.size) : (w.alloc o).heap[k]? = some o := by rw [heap_al, if_pos h]
theorem heap_dr (w : World) (k : Nat) : w.drew.heap[k]? = w.heap[k]? := rfl
theorem size_mk59 (n : Nat) : (mk59 n).size = n * 6 := size_madeCells _ _

theorem blk1 (w : World) (p q a b c d : Obj) : ((((((w.alloc p).alloc q).alloc a).alloc b).alloc c).alloc d).drew.heap[w.heap.size + 1 + 1]? = some a := by
  rw [heap_dr, heap_al_lt _ _ _ (by simp <;> omega), heap_al_lt _ _ _ (by simp <;> omega), heap_al_lt _ _ _ (by simp), heap_al_eq _ _ _ (by simp)]
theorem blk2 (w : World) (p q a b c d : Obj) : ((((((w.alloc p).alloc q).alloc a).alloc b).alloc c).alloc d).drew.heap[w.heap.size + 1 + 1 + 1]? = some b := by
  rw [heap_dr, heap_al_lt _ _ _ (by simp <;> omega), heap_al_lt _ _ _ (by simp), heap_al_eq _ _ _ (by simp)]
theorem blk3 (w : World) (p q a b c d : Obj) : ((((((w.alloc p).alloc q).alloc a).alloc b).alloc c).alloc d).drew.heap[w.heap.size + 1 + 1 + 1 + 1]? = some c := by
  rw [heap_dr, heap_al_lt _ _ _ (by simp), heap_al_eq _ _ _ (by simp)]
theorem blk4 (w : World) (p q a b c d : Obj) : ((((((w.alloc p).alloc q).alloc a).alloc b).alloc c).alloc d).drew.heap[w.heap.size + 1 + 1 + 1 + 1 + 1]? = some d := by
  rw [heap_dr, heap_al_eq _ _ _ (by simp)]
theorem blkp (w : World) (p q a b c d : Obj) : ((((((w.alloc p).alloc q).alloc a).alloc b).alloc c).alloc d).drew.heap[w.heap.size]? = some p := by
  rw [heap_dr, heap_al_lt _ _ _ (by simp <;> omega), heap_al_lt _ _ _ (by simp <;> omega), heap_al_lt _ _ _ (by simp <;> omega), heap_al_lt _ _ _ (by simp <;> omega), heap_al_lt _ _ _ (by simp), heap_al_eq _ _ _ rfl]
theorem blkq (w : World) (p q a b c d : Obj) : ((((((w.alloc p).alloc q).alloc a).alloc b).alloc c).alloc d).drew.heap[w.heap.size + 1]? = some q := by
  rw [heap_dr, heap_al_lt _ _ _ (by simp <;> omega), heap_al_lt _ _ _ (by simp <;> omega), heap_al_lt _ _ _ (by simp <;> omega), heap_al_lt _ _ _ (by simp), heap_al_eq _ _ _ (by simp)]

theorem size59 : (Try.prog.info? 59).map (·.size) = some 6 := by kernel_rfl

theorem size56 : (Try.prog.info? 56).map (·.size) = some 4 := by kernel_rfl
abbrev z6 : Array Value := #[.int .i64 0, .int .i64 0, .int .i64 0, .int .i64 0, .int .i64 0, .int .i64 0]
abbrev tabC (n bl s g0 g1 g2 : Nat) : Array Value := #[.slice (some ⟨g0, 0, none⟩) n n, .slice (some ⟨g1, 0, none⟩) bl bl, .int .i64 s, .slice (some ⟨g2, 0, none⟩) bl bl]

theorem z6_one : z6.all (·.oneCell') = true := by simp [z6, Value.oneCell']
theorem tabC_one (n bl s g0 g1 g2 : Nat) : (tabC n bl s g0 g1 g2).all (·.oneCell') = true := by simp [tabC, Value.oneCell']

theorem cell_row {w : World} {b : Nat} {cs : Array Value} {e : TypeId} (h : w.heap[b]? = some (.cells cs e (0, 0))) (i : Nat) : w.cell? ⟨b, i, none⟩ = cs[i]? := by simp [World.cell?, h]
theorem free_row {w : World} {b : Nat} {cs : Array Value} {e : TypeId} (h : w.heap[b]? = some (.cells cs e (0, 0))) (i : Nat) : w.frozen? ⟨b, i, none⟩ = false := by simp [World.frozen?, h]

theorem range_row {w : World} {b : Nat} {cs : Array Value} {e : TypeId} (h : w.heap[b]? = some (.cells cs e (0, 0))) : w.rangeAt b 0 cs.toList := fun j v hv => by
  rw [cell_row h]
  simpa using hv

theorem there_row {w : World} {b e n : Nat} (h : RowSz w b e n) (o m : Nat) (hm : o + m ≤ n) : w.there b o m := fun j hj => by
  obtain ⟨cur, hh, hs⟩ := h
  refine ⟨?_, free_row hh _⟩
  rw [cell_row hh, Array.getElem?_eq_getElem (by omega)]
  rfl

theorem cells6 {w : World} {b o : Nat} (h : w.there b o 6) : ∃ v0 v1 v2 v3 v4 v5, w.cell? ⟨b, o, none⟩ = some v0 ∧ w.cell? ⟨b, o + 1, none⟩ = some v1 ∧ w.cell? ⟨b, o + 2, none⟩ = some v2 ∧ w.cell? ⟨b, o + 3, none⟩ = some v3 ∧ w.cell? ⟨b, o + 4, none⟩ = some v4 ∧ w.cell? ⟨b, o + 5, none⟩ = some v5 := by
  obtain ⟨v0, h0⟩ := Option.isSome_iff_exists.1 (h 0 (by omega)).1
  obtain ⟨v1, h1⟩ := Option.isSome_iff_exists.1 (h 1 (by omega)).1
  obtain ⟨v2, h2⟩ := Option.isSome_iff_exists.1 (h 2 (by omega)).1
  obtain ⟨v3, h3⟩ := Option.isSome_iff_exists.1 (h 3 (by omega)).1
  obtain ⟨v4, h4⟩ := Option.isSome_iff_exists.1 (h 4 (by omega)).1
  obtain ⟨v5, h5⟩ := Option.isSome_iff_exists.1 (h 5 (by omega)).1
  exact ⟨v0, v1, v2, v3, v4, v5, h0, h1, h2, h3, h4, h5⟩

theorem heap_sets (b : Nat) : ∀ (vs : List Value) (o : Nat) (w : World) (k : Nat), (w.setCells b o vs).heap[k]? = w.heap[k]? ∨ k = b ∧ ∀ cur e z, w.heap[k]? = some (.cells cur e z) → ∃ cur', (w.setCells b o vs).heap[k]? = some (.cells cur' e z) ∧ cur'.size = cur.size
  | [], o, w, k => .inl rfl
  | v :: r, o, w, k => by
    rw [World.setCells]
    by_cases hk : k = b
    · right
      refine ⟨hk, fun cur e z h => ?_⟩
      have h1 : (w.setCell ⟨b, o, none⟩ v).heap[k]? = some (.cells (cur.setIfInBounds o v) e z) := by
        subst hk
        simp [World.setCell, Array.getElem?_modify, h]
      rcases heap_sets b r (o + 1) (w.setCell ⟨b, o, none⟩ v) k with h2 | ⟨_, h2⟩
      · exact ⟨_, h2.trans h1, by simp⟩
      · obtain ⟨cur', h3, h4⟩ := h2 _ _ _ h1
        exact ⟨cur', h3, by rw [h4]; simp⟩
    · left
      rcases heap_sets b r (o + 1) (w.setCell ⟨b, o, none⟩ v) k with h2 | ⟨h2, _⟩
      · exact h2.trans (Below.heap_setCell _ _ _ _ hk)
      · exact absurd h2 hk

theorem heap_sets_other (b : Nat) (vs : List Value) (o : Nat) (w : World) (k : Nat) (h : k ≠ b) : (w.setCells b o vs).heap[k]? = w.heap[k]? := by
  rcases heap_sets b vs o w k with h' | ⟨h', _⟩
  · exact h'
  · exact absurd h' h

theorem RowSz.sets {w : World} {g e n : Nat} (h : RowSz w g e n) (b o : Nat) (vs : List Value) : RowSz (w.setCells b o vs) g e n := by
  obtain ⟨cur, hh, hs⟩ := h
  rcases heap_sets b vs o w g with h' | ⟨_, h'⟩
  · exact ⟨cur, h'.trans hh, hs⟩
  · obtain ⟨cur', h1, h2⟩ := h' _ _ _ hh
    exact ⟨cur', h1, h2.trans hs⟩

theorem Below.sets {B : Nat} {a w : World} (h : Below B a w) {b : Nat} (hb : B ≤ b) : ∀ (vs : List Value) (o : Nat), Below B a (w.setCells b o vs) := by
  intro vs
  induction vs generalizing w with
  | nil => intro o; exact h
  | cons v r ih => intro o; exact ih (h.setCell hb v) (o + 1)

/-- A store into one of the two rows. -/
theorem Tab.sets {w0 w : World} {gt g0 g1 g2 n bl s : Nat} (h : Tab w0 w gt g0 g1 g2 n bl s) {b m : Nat} (hr : RowSz w b 59 m) (hb : w0.heap.size + 2 ≤ b) (o : Nat) (vs : List Value) : Tab w0 (w.setCells b o vs) gt g0 g1 g2 n bl s := by
  have htb : gt ≠ b := by
    rintro rfl
    obtain ⟨cur, hh, _⟩ := hr
    have := h.tab
    rw [hh] at this
    simp at this
  exact ⟨(heap_sets_other b vs o w gt htb).trans h.tab, h.r0.sets b o vs, h.r1.sets b o vs, (heap_sets_other b vs o w _ (by omega)).trans h.box, (heap_sets_other b vs o w _ (by omega)).trans h.res, h.h0, h.h1, h.ht, Below.sets h.below (by omega) vs o⟩

/-- Four new blocks behind two, in whatever order. -/
theorem tab_of {w : World} {gt g0 g1 g2 n bl s : Nat} {o1 o2 o3 o4 : Obj}
    (ht : ((((((w.alloc (.cells #[.int .i64 0, .int .i64 0, .int .i64 0, .int .i64 0, .int .i64 0, .int .i64 0] 59)).alloc (.cells #[.slice none 0 0, .slice none 0 0, .int .i64 0, .slice none 0 0] 56)).alloc o1).alloc o2).alloc o3).alloc o4).drew.heap[gt]? = some (.cells #[.slice (some ⟨g0, 0, none⟩) n n, .slice (some ⟨g1, 0, none⟩) bl bl, .int .i64 s, .slice (some ⟨g2, 0, none⟩) bl bl] 56 (0, 0)))
    (h0 : ((((((w.alloc (.cells #[.int .i64 0, .int .i64 0, .int .i64 0, .int .i64 0, .int .i64 0, .int .i64 0] 59)).alloc (.cells #[.slice none 0 0, .slice none 0 0, .int .i64 0, .slice none 0 0] 56)).alloc o1).alloc o2).alloc o3).alloc o4).drew.heap[g0]? = some (.cells (mk59 n) 59 (0, 0)))
    (h1 : ((((((w.alloc (.cells #[.int .i64 0, .int .i64 0, .int .i64 0, .int .i64 0, .int .i64 0, .int .i64 0] 59)).alloc (.cells #[.slice none 0 0, .slice none 0 0, .int .i64 0, .slice none 0 0] 56)).alloc o1).alloc o2).alloc o3).alloc o4).drew.heap[g1]? = some (.cells (mk59 bl) 59 (0, 0)))
    (b0 : w.heap.size + 2 ≤ g0) (b1 : w.heap.size + 2 ≤ g1) (bt : w.heap.size + 2 ≤ gt) :
    Tab w ((((((w.alloc (.cells #[.int .i64 0, .int .i64 0, .int .i64 0, .int .i64 0, .int .i64 0, .int .i64 0] 59)).alloc (.cells #[.slice none 0 0, .slice none 0 0, .int .i64 0, .slice none 0 0] 56)).alloc o1).alloc o2).alloc o3).alloc o4).drew gt g0 g1 g2 n bl s := by
  refine ⟨ht, ⟨_, h0, size_mk59 n⟩, ⟨_, h1, size_mk59 bl⟩, blkp _ _ _ _ _ _ _, blkq _ _ _ _ _ _ _, b0, b1, bt, ?_⟩
  exact (((((((Below.refl _ _).alloc (by simp) _).alloc (by simp) _).alloc (by simp; omega) _).alloc (by simp; omega) _).alloc (by simp; omega) _).alloc (by simp; omega) _).drew

theorem shift_facts (n s : Nat) (h1 : 3 ≤ s) (h2 : s ≤ 8) (hn : n ≤ 65536) : ∃ bl : Nat, wrap64 (wrap64 ((n : Int) + wrap64 (2 ^ s)) - 1) / 2 ^ s = (bl : Int) ∧ bl ≤ 65536 ∧ bl = (n + 2 ^ s - 1) / 2 ^ s := by
  have h : s = 3 ∨ s = 4 ∨ s = 5 ∨ s = 6 ∨ s = 7 ∨ s = 8 := by omega
  rcases h with rfl | rfl | rfl | rfl | rfl | rfl <;> (simp only [wrap64]; refine ⟨_, ?_, ?_, rfl⟩ <;> omega)

set_option maxHeartbeats 1000000 in
theorem new22 (n : Nat) (w : World) (hn : n ≤ 65536) :
    Calls Try.prog 22 #[.int .i64 n, .agg #[.int .i64 0, .int .i64 0, .int .i64 0, .int .i64 0, .int .i64 0, .int .i64 0]] w fun e w' => ∃ g0 g1 g2 bl s : Nat, e = .returned (.agg #[.slice (some ⟨g0, 0, none⟩) n n, .slice (some ⟨g1, 0, none⟩) bl bl, .int .i64 s, .slice (some ⟨g2, 0, none⟩) bl bl]) ∧
      bl = (n + 2 ^ s - 1) / 2 ^ s ∧ 3 ≤ s ∧ s ≤ 8 ∧ n ≤ 2 ^ (2 * s) ∧ (s = 3 ∨ 2 ^ (2 * (s - 1)) < n) ∧ Below w.heap.size w w' := by
  go_enter Try.func22, Try.ntmps22
  go_wp2
  go_loop [5] (fun t => ∃ s : Nat, 3 ≤ s ∧ s ≤ 8 ∧ t = .int .i64 s ∧ Hid (s = 3 ∨ 2 ^ (2 * (s - 1)) < n)) (fun t => 8 - (intOf t).toNat)
  case atStart => exact ⟨3, by omega, by omega, rfl, .inl rfl⟩
  case round =>
    obtain ⟨s, h1, h2, rfl, hprev⟩ := hrel
    obtain ⟨bl, hbl, hbl1, hbl2⟩ := shift_facts n s h1 h2 hn
    have HB : Hid (wrap64 (wrap64 ((n : Int) + wrap64 (2 ^ s)) - 1) / 2 ^ s = (bl : Int)) := hbl
    have HB2 : Hid (bl = (n + 2 ^ s - 1) / 2 ^ s) := hbl2
    clear hbl hbl2
    go_wp2_with fail
    · have hlt : wrap64 (2 ^ (2 * s)) < (n : Int) := by assumption
      go_round
      case rel =>
        have h : s = 3 ∨ s = 4 ∨ s = 5 ∨ s = 6 ∨ s = 7 ∨ s = 8 := by omega
        refine ⟨s + 1, by omega, ?_, by go_num, .inr ?_⟩
        · rcases h with rfl | rfl | rfl | rfl | rfl | rfl <;> simp [wrap64] at hlt <;> omega
        · rcases h with rfl | rfl | rfl | rfl | rfl | rfl <;> simp [wrap64] at hlt <;> simp <;> omega
      case measure =>
        have h : s = 3 ∨ s = 4 ∨ s = 5 ∨ s = 6 ∨ s = 7 ∨ s = 8 := by omega
        rcases h with rfl | rfl | rfl | rfl | rfl | rfl <;> simp [wrap64] at hlt <;> simp [intOf] <;> omega
    · have hge : (n : Int) ≤ wrap64 (2 ^ (2 * s)) := by assumption
      have HG : Hid (n ≤ 2 ^ (2 * s)) := by
        have h : s = 3 ∨ s = 4 ∨ s = 5 ∨ s = 6 ∨ s = 7 ∨ s = 8 := by omega
        rcases h with rfl | rfl | rfl | rfl | rfl | rfl <;> simp [wrap64] at hge <;> (show n ≤ _) <;> simp <;> omega
      rw [HB.out]
      clear HB hge
      have m32a := make32 n (by omega)
      have m32b := make32 bl (by omega)
      have m31 := make31 bl (by omega)
      go_cut [7, 25, 27, 30] from 24 to 31 (fun p v0 v1 v2 wc => ∃ gt g0 g1 g2 : Nat, p = .pointer (some ⟨gt, 0, none⟩) ∧ v0 = .slice (some ⟨g0, 0, none⟩) n n ∧ v1 = .slice (some ⟨g1, 0, none⟩) bl bl ∧ v2 = .slice (some ⟨g2, 0, none⟩) bl bl ∧ Tab w wc gt g0 g1 g2 n bl s)
      case first =>
        go_region
        all_goals (go_wp2_with fail; go_meet)
        all_goals refine ⟨_, _, _, _, rfl, rfl, rfl, rfl, tab_of ?_ ?_ ?_ ?_ ?_ ?_⟩
        all_goals first | omega | rw [blk1] | rw [blk2] | rw [blk3] | rw [blk4]
      case rest =>
        obtain ⟨gt, g0, g1, g2, rfl, rfl, rfl, rfl, hT⟩ := hcut
        have ct0 : wc.cell? ⟨gt, 0, none⟩ = some (.slice (some ⟨g0, 0, none⟩) n n) := by have := hT.tab; simp [World.cell?, this]
        clear m32a m32b m31
        go_wp2
        go_loopw [35] (fun i wr => ∃ k : Nat, k ≤ n ∧ i = .int .i64 k ∧ Tab w wr gt g0 g1 g2 n bl s) (fun i _ => n - (intOf i).toNat)
        case atStart => exact ⟨0, Nat.zero_le _, rfl, hT⟩
        case round =>
          obtain ⟨k, hk, rfl, hT'⟩ := hrel
          clear hT ct0
          by_cases hlt : k < n
          · have c0 : wr.cell? ⟨gt, 0, none⟩ = some (.slice (some ⟨g0, 0, none⟩) n n) := cell_row hT'.tab 0
            have x0 : wr.cell? ⟨w.heap.size, 0, none⟩ = some (.int .i64 0) := cell_row hT'.box 0
            have x1 : wr.cell? ⟨w.heap.size, 1, none⟩ = some (.int .i64 0) := cell_row hT'.box 1
            have x2 : wr.cell? ⟨w.heap.size, 2, none⟩ = some (.int .i64 0) := cell_row hT'.box 2
            have x3 : wr.cell? ⟨w.heap.size, 3, none⟩ = some (.int .i64 0) := cell_row hT'.box 3
            have x4 : wr.cell? ⟨w.heap.size, 4, none⟩ = some (.int .i64 0) := cell_row hT'.box 4
            have x5 : wr.cell? ⟨w.heap.size, 5, none⟩ = some (.int .i64 0) := cell_row hT'.box 5
            have hth := there_row hT'.r0 (k * 6) 6 (by omega)
            obtain ⟨v0, v1, v2, v3, v4, v5, y0, y1, y2, y3, y4, y5⟩ := cells6 hth
            have hz : ∀ i, wr.frozen? ⟨g0, i, none⟩ = false := by obtain ⟨cur, hh, _⟩ := hT'.r0; exact free_row hh
            clear hth
            go_wp2
            have R := hT'.sets hT'.r0 hT'.h0 (k * 6) z6.toList
            clear hT' c0 x0 x1 x2 x3 x4 x5 y0 y1 y2 y3 y4 y5 hz
            go_roundw
            case rel => exact ⟨k + 1, by omega, by go_num, R⟩
            case measure => simp [intOf]; omega
          · have c1 : wr.cell? ⟨gt, 1, none⟩ = some (.slice (some ⟨g1, 0, none⟩) bl bl) := cell_row hT'.tab 1
            go_wp2
            go_loopw [47] (fun i wr' => ∃ k : Nat, k ≤ bl ∧ i = .int .i64 k ∧ Tab w wr' gt g0 g1 g2 n bl s) (fun i _ => bl - (intOf i).toNat)
            case atStart => exact ⟨0, Nat.zero_le _, rfl, hT'⟩
            case round =>
              obtain ⟨k, hk, rfl, hT2⟩ := hrel
              clear hT' c1
              by_cases hlt : k < bl
              · have c1 : wr.cell? ⟨gt, 1, none⟩ = some (.slice (some ⟨g1, 0, none⟩) bl bl) := cell_row hT2.tab 1
                have x0 : wr.cell? ⟨w.heap.size, 0, none⟩ = some (.int .i64 0) := cell_row hT2.box 0
                have x1 : wr.cell? ⟨w.heap.size, 1, none⟩ = some (.int .i64 0) := cell_row hT2.box 1
                have x2 : wr.cell? ⟨w.heap.size, 2, none⟩ = some (.int .i64 0) := cell_row hT2.box 2
                have x3 : wr.cell? ⟨w.heap.size, 3, none⟩ = some (.int .i64 0) := cell_row hT2.box 3
                have x4 : wr.cell? ⟨w.heap.size, 4, none⟩ = some (.int .i64 0) := cell_row hT2.box 4
                have x5 : wr.cell? ⟨w.heap.size, 5, none⟩ = some (.int .i64 0) := cell_row hT2.box 5
                have hth := there_row hT2.r1 (k * 6) 6 (by omega)
                obtain ⟨v0, v1, v2, v3, v4, v5, y0, y1, y2, y3, y4, y5⟩ := cells6 hth
                have hz : ∀ i, wr.frozen? ⟨g1, i, none⟩ = false := by obtain ⟨cur, hh, _⟩ := hT2.r1; exact free_row hh
                clear hth
                go_wp2
                have R := hT2.sets hT2.r1 hT2.h1 (k * 6) z6.toList
                clear hT2 c1 x0 x1 x2 x3 x4 x5 y0 y1 y2 y3 y4 y5 hz
                go_roundw
                case rel => exact ⟨k + 1, by omega, by go_num, R⟩
                case measure => simp [intOf]; omega
              · have hrg := range_row hT2.tab
                have hth := there_row ⟨_, hT2.res, rfl⟩ 0 4 (by simp)
                go_wp2_with (first | (refine wpList_load_mid rfl 56 _ rfl gt 0 rfl _ _ hrg Try.underlying56 rfl size56 ?_) | (refine wpList_store_mid rfl 56 _ _ rfl (w.heap.size + 1) 0 (tabC n bl s g0 g1 g2) rfl rfl hth size56 (tabC_one n bl s g0 g1 g2) ?_))
                have hq := World.rangeAt_setCells_same wr (w.heap.size + 1) 0 (tabC n bl s g0 g1 g2).toList hth
                have q0 := hq 0 _ rfl
                have q1 := hq 1 _ rfl
                have q2 := hq 2 _ rfl
                have q3 := hq 3 _ rfl
                simp only [Nat.zero_add] at q0 q1 q2 q3
                have hbel : Below w.heap.size w (wr.setCells (w.heap.size + 1) 0 (tabC n bl s g0 g1 g2).toList) := Below.sets hT2.below (by omega) _ _
                exact bodyPost_ret (v := .agg (tabC n bl s g0 g1 g2)) (by simp [results, Try.results22, go_sem, q0, q1, q2, q3]) rfl ⟨g0, g1, g2, bl, s, rfl, HB2.out, h1, h2, HG.out, hprev.out, hbel⟩
end Go.Proofs.Qxb6001285a
