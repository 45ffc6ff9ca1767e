/- the functions that make rows: the copies, without. -/
import Derived.Test.Qxb6001032aSmall
namespace Go.Proofs.Qxb6001032a
open Go.RowKit Go.Maps
set_option linter.unusedVariables false

theorem info9 : (Try.prog.info? 9).map (fun i => (i.zero, i.size, i.bytes)) = some (some (.string ByteArray.empty), 1, 16) := by kernel_rfl
theorem info34 : (Try.prog.info? 34).map (fun i => (i.zero, i.size, i.bytes)) = some (some (.int .u32 0), 1, 4) := by kernel_rfl

/-- The first k of ss laid; the rest still empty. -/
def laidTo {α : Type} (z : α) (ss : List α) (k : Nat) : List α := ss.take k ++ List.replicate (ss.length - k) z

theorem laidTo_zero {α : Type} (z : α) (ss : List α) : laidTo z ss 0 = List.replicate ss.length z := by simp [laidTo]
theorem laidTo_all {α : Type} (z : α) (ss : List α) : laidTo z ss ss.length = ss := by simp [laidTo]
theorem laidTo_step {α : Type} (z : α) (ss : List α) (k : Nat) (hk : k < ss.length) : (laidTo z ss k).set k ss[k] = laidTo z ss (k + 1) := by
  unfold laidTo
  have e : ss.length - k = (ss.length - (k + 1)) + 1 := by omega
  rw [e, List.replicate_succ, List.take_succ_eq_append_getElem hk, List.set_append]
  simp only [List.length_take]
  rw [if_neg (by omega), Nat.min_eq_left (by omega), Nat.sub_self, List.set_cons_zero, List.append_assoc]
  rfl

def strs (ss : List ByteArray) : List Value := ss.map Value.string
def words (zs : List Int) : List Value := zs.map (Value.int .u32)

theorem owns_strAt {w : World} {base : Nat} {v : Value} {ss : List ByteArray} (h : w.ownsRow base 9 1 v ss.length (strs ss)) : ∃ a cap, v = .slice a ss.length cap ∧ StrAt w a ss ∧ (ss ≠ [] → ∃ g, a = some ⟨g, 0, none⟩ ∧ base ≤ g) := by
  rcases h.2 with ⟨rfl, h0⟩ | ⟨g, cap, cur, rfl, hg, hh, r⟩
  · have : ss = [] := List.eq_nil_of_length_eq_zero h0
    subst this
    exact ⟨none, 0, rfl, .inl rfl, fun h => absurd rfl h⟩
  · refine ⟨_, cap, rfl, .inr ⟨g, 0, rfl, fun j hj => ?_⟩, fun _ => ⟨g, rfl, hg⟩⟩
    rw [Nat.zero_add, World.ownsRow.cellAt h j (by omega)]
    simp [strs, List.getElem?_map, List.getD, List.getElem?_eq_getElem hj]

theorem owns_wordAt {w : World} {base : Nat} {v : Value} {zs : List Int} (h : w.ownsRow base 34 1 v zs.length (words zs)) : ∃ a cap, v = .slice a zs.length cap ∧ WordAt w a zs := by
  rcases h.2 with ⟨rfl, h0⟩ | ⟨g, cap, cur, rfl, hg, hh, r⟩
  · have : zs = [] := List.eq_nil_of_length_eq_zero h0
    subst this
    exact ⟨none, 0, rfl, .inl rfl⟩
  · refine ⟨_, cap, rfl, .inr ⟨g, 0, rfl, fun j hj => ?_⟩⟩
    rw [Nat.zero_add, World.ownsRow.cellAt h j (by omega)]
    simp [words, List.getElem?_map, List.getD, List.getElem?_eq_getElem hj]

theorem copy_step {w wr : World} {n k : Nat} {ss : List ByteArray} {x : ByteArray} (hn : n = ss.length) (hk : k < n) (hx : x = ss.getD k ByteArray.empty)
    (hown : wr.ownsRow w.heap.size 9 1 (.slice (some ⟨w.heap.size, 0, none⟩) n n) n (strs (laidTo ByteArray.empty ss k))) (hnx : Below w.heap.size w wr) :
    (wr.setCell ⟨w.heap.size, k, none⟩ (.string x)).ownsRow w.heap.size 9 1 (.slice (some ⟨w.heap.size, 0, none⟩) n n) n (strs (laidTo ByteArray.empty ss (k + 1))) ∧ Below w.heap.size w (wr.setCell ⟨w.heap.size, k, none⟩ (.string x)) := by
  have h1 := (hown.stored k (.string x)).1
  subst hn
  rw [getD_at hk] at hx
  subst hx
  refine ⟨?_, hnx.setCell (Nat.le_refl _) _⟩
  rw [← laidTo_step _ _ _ hk]
  unfold strs at h1 ⊢
  rw [List.map_set]
  exact h1

set_option maxHeartbeats 400000 in
theorem copy10 (b off cap : Nat) (ss : List ByteArray) (w : World) (hn : ss.length ≤ 4096) (hpos : 0 < ss.length) (hb : b < w.heap.size)
    (hc : ∀ j, j < ss.length → w.cell? ⟨b, off + j, none⟩ = some (.string (ss.getD j ByteArray.empty))) :
    Calls Try.prog 10 #[.slice (some ⟨b, off, none⟩) ss.length cap] w fun e w' => e = .returned (.slice (some ⟨w.heap.size, 0, none⟩) ss.length ss.length) ∧
      w'.ownsRow w.heap.size 9 1 (.slice (some ⟨w.heap.size, 0, none⟩) ss.length ss.length) ss.length (strs ss) ∧ Below w.heap.size w w' := by
  obtain ⟨i0, hi, hz0, hz1, hz2⟩ := info_parts info9
  have q22 : ∀ (w : World) (a : Option Addr) (n c n' c' : Nat), (binOp .eql 22 (.slice a n c) (.slice none n' c')).run Try.prog w = .ok (.bool a.isNone) w := fun w a n c n' c' => Lib.run_eql_slice_nil w _ _ a n c n' c' Try.underlying22
  obtain ⟨n, hnn⟩ : ∃ n, n = ss.length := ⟨_, rfl⟩
  rw [← hnn] at hn hpos hc ⊢
  have Hn : Hid (n = ss.length) := hnn
  clear hnn
  go_enter Try.func10, Try.ntmps10
  go_wp2_with (at_make; refine wpList_make_full _ rfl _ _ 22 rfl w.heap.size 9 i0 (.string ByteArray.empty) 1 Try.underlying22 hi hz0 hz1 _ _ _ _ n rfl rfl rfl rfl (by rw [hz2]; omega) (by unfold maxLen; omega) (Nat.le_refl _) ?_)
  intro w1 hown hg
  rw [show (madeCells #[Value.string ByteArray.empty] n).toList = strs (laidTo ByteArray.empty ss 0) from by rw [laidTo_zero, ← Hn.out, strs, List.map_replicate]; exact toList_madeCells_one _ _] at hown
  have hnx := (Below.refl w.heap.size w).grown hg (Nat.le_refl _) (fun k hk => by cases hk)
  clear hg hi hz0 hz1 hz2
  go_wp2
  go_loopw [4] (fun i wr => ∃ k : Nat, k ≤ n ∧ i = .int .i64 k ∧ wr.ownsRow w.heap.size 9 1 (.slice (some ⟨w.heap.size, 0, none⟩) n n) n (strs (laidTo ByteArray.empty ss k)) ∧ Below w.heap.size w wr) (fun i _ => n - (intOf i).toNat)
  case atStart => exact ⟨0, Nat.zero_le _, rfl, hown, hnx⟩
  case round =>
    obtain ⟨k, hk, rfl, hown', hnx'⟩ := hrel
    clear hown hnx
    by_cases hlt : k < n
    · obtain ⟨x, hx⟩ : ∃ x, x = ss.getD k ByteArray.empty := ⟨_, rfl⟩
      have hcell : wr.cell? ⟨b, off + k, none⟩ = some (.string x) := by rw [hx]; exact (hnx'.cell (by exact hb)).trans (hc k hlt)
      have hz : wr.frozen? ⟨w.heap.size, k, none⟩ = false := hown'.frozenAt k
      have R := copy_step Hn.out hlt hx hown' hnx'
      obtain ⟨v0, hv0⟩ : ∃ v0, wr.cell? ⟨w.heap.size, k, none⟩ = some (.string v0) := by
        rw [hown'.cellAt k (by omega)]
        have hl : k < (laidTo ByteArray.empty ss k).length := by
          have := hown'.1
          simp [strs] at this
          omega
        rw [strs, List.getElem?_map, List.getElem?_eq_getElem hl]
        exact ⟨_, rfl⟩
      clear hown' hnx' hc hx
      go_wp2
      go_roundw
      case rel => exact ⟨k + 1, by omega, by go_num, R.1, R.2⟩
      case measure => simp [intOf]; omega
    · have hkn : k = n := by omega
      have h2 : laidTo ByteArray.empty ss n = ss := by rw [Hn.out]; exact laidTo_all _ _
      have H2 : Hid (laidTo ByteArray.empty ss n = ss) := h2
      clear h2
      subst hkn
      go_wp2
      go_ret
      rw [H2.out] at hown'
      exact ⟨rfl, hown', hnx'⟩

theorem getW_at {zs : List Int} {k : Nat} (hk : k < zs.length) : zs.getD k 0 = zs[k] := by
  rw [List.getD, List.getElem?_eq_getElem hk]
  rfl

theorem copyW_step {w wr : World} {n k : Nat} {zs : List Int} {x : Int} (hn : n = zs.length) (hk : k < n) (hx : x = zs.getD k 0)
    (hown : wr.ownsRow w.heap.size 34 1 (.slice (some ⟨w.heap.size, 0, none⟩) n n) n (words (laidTo 0 zs k))) (hnx : Below w.heap.size w wr) :
    (wr.setCell ⟨w.heap.size, k, none⟩ (.int .u32 x)).ownsRow w.heap.size 34 1 (.slice (some ⟨w.heap.size, 0, none⟩) n n) n (words (laidTo 0 zs (k + 1))) ∧ Below w.heap.size w (wr.setCell ⟨w.heap.size, k, none⟩ (.int .u32 x)) := by
  have h1 := (hown.stored k (.int .u32 x)).1
  subst hn
  rw [getW_at hk] at hx
  subst hx
  refine ⟨?_, hnx.setCell (Nat.le_refl _) _⟩
  rw [← laidTo_step _ _ _ hk]
  unfold words at h1 ⊢
  rw [List.map_set]
  exact h1

set_option maxHeartbeats 400000 in
theorem copyW_nil (w : World) : Calls Try.prog 11 #[.slice none 0 0] w fun e w' => e = .returned (.slice none 0 0) ∧ w' = w := by
  have q23 : ∀ (w : World) (a : Option Addr) (n c n' c' : Nat), (binOp .eql 23 (.slice a n c) (.slice none n' c')).run Try.prog w = .ok (.bool a.isNone) w := fun w a n c n' c' => Lib.run_eql_slice_nil w _ _ a n c n' c' Try.underlying23
  go_enter Try.func11, Try.ntmps11
  go_wp2
  go_ret
  exact ⟨rfl, rfl⟩

set_option maxHeartbeats 400000 in
theorem copyW_empty (ad : Addr) (cap : Nat) (w : World) : Calls Try.prog 11 #[.slice (some ad) 0 cap] w fun e w' => e = .returned (.slice (some ⟨w.heap.size, 0, none⟩) 0 0) ∧ w'.ownsRow w.heap.size 34 1 (.slice (some ⟨w.heap.size, 0, none⟩) 0 0) 0 [] ∧ Below w.heap.size w w' := by
  have q23 : ∀ (w : World) (a : Option Addr) (n c n' c' : Nat), (binOp .eql 23 (.slice a n c) (.slice none n' c')).run Try.prog w = .ok (.bool a.isNone) w := fun w a n c n' c' => Lib.run_eql_slice_nil w _ _ a n c n' c' Try.underlying23
  obtain ⟨i0, hi, hz0, hz1, hz2⟩ := info_parts info34
  go_enter Try.func11, Try.ntmps11
  go_wp2_with (at_make; refine wpList_make_full _ rfl _ _ 23 rfl w.heap.size 34 i0 (.int .u32 0) 1 Try.underlying23 hi hz0 hz1 _ _ _ _ 0 rfl rfl rfl rfl (by omega) (by unfold maxLen; omega) (Nat.le_refl _) ?_)
  intro w1 hown hg
  have hnx := (Below.refl w.heap.size w).grown hg (Nat.le_refl _) (fun k hk => by cases hk)
  have hown' : w1.ownsRow w.heap.size 34 1 (.slice (some ⟨w.heap.size, 0, none⟩) 0 0) 0 [] := by simpa [madeCells] using hown
  clear hown hg
  go_wp2
  refine wp_loop_rounds 1 ?_
  rw [rounds_succ]
  go_wp2
  go_ret
  exact ⟨rfl, hown', hnx⟩

set_option maxHeartbeats 400000 in
theorem copyW_more (b off cap : Nat) (zs : List Int) (w : World) (hn : zs.length ≤ 4096) (hpos : 0 < zs.length) (hb : b < w.heap.size)
    (hc : ∀ j, j < zs.length → w.cell? ⟨b, off + j, none⟩ = some (.int .u32 (zs.getD j 0))) :
    Calls Try.prog 11 #[.slice (some ⟨b, off, none⟩) zs.length cap] w fun e w' => e = .returned (.slice (some ⟨w.heap.size, 0, none⟩) zs.length zs.length) ∧
      w'.ownsRow w.heap.size 34 1 (.slice (some ⟨w.heap.size, 0, none⟩) zs.length zs.length) zs.length (words zs) ∧ Below w.heap.size w w' := by
  obtain ⟨i0, hi, hz0, hz1, hz2⟩ := info_parts info34
  have q23 : ∀ (w : World) (a : Option Addr) (n c n' c' : Nat), (binOp .eql 23 (.slice a n c) (.slice none n' c')).run Try.prog w = .ok (.bool a.isNone) w := fun w a n c n' c' => Lib.run_eql_slice_nil w _ _ a n c n' c' Try.underlying23
  obtain ⟨n, hnn⟩ : ∃ n, n = zs.length := ⟨_, rfl⟩
  rw [← hnn] at hn hpos hc ⊢
  have Hn : Hid (n = zs.length) := hnn
  clear hnn
  go_enter Try.func11, Try.ntmps11
  go_wp2_with (at_make; refine wpList_make_full _ rfl _ _ 23 rfl w.heap.size 34 i0 (.int .u32 0) 1 Try.underlying23 hi hz0 hz1 _ _ _ _ n rfl rfl rfl rfl (by rw [hz2]; omega) (by unfold maxLen; omega) (Nat.le_refl _) ?_)
  intro w1 hown hg
  rw [show (madeCells #[Value.int .u32 0] n).toList = words (laidTo 0 zs 0) from by rw [laidTo_zero, ← Hn.out, words, List.map_replicate]; exact toList_madeCells_one _ _] at hown
  have hnx := (Below.refl w.heap.size w).grown hg (Nat.le_refl _) (fun k hk => by cases hk)
  clear hg hi hz0 hz1 hz2
  go_wp2
  go_loopw [4] (fun i wr => ∃ k : Nat, k ≤ n ∧ i = .int .i64 k ∧ wr.ownsRow w.heap.size 34 1 (.slice (some ⟨w.heap.size, 0, none⟩) n n) n (words (laidTo 0 zs k)) ∧ Below w.heap.size w wr) (fun i _ => n - (intOf i).toNat)
  case atStart => exact ⟨0, Nat.zero_le _, rfl, hown, hnx⟩
  case round =>
    obtain ⟨k, hk, rfl, hown', hnx'⟩ := hrel
    clear hown hnx
    by_cases hlt : k < n
    · obtain ⟨x, hx⟩ : ∃ x, x = zs.getD k 0 := ⟨_, rfl⟩
      have hcell : wr.cell? ⟨b, off + k, none⟩ = some (.int .u32 x) := by rw [hx]; exact (hnx'.cell (by exact hb)).trans (hc k hlt)
      have hz : wr.frozen? ⟨w.heap.size, k, none⟩ = false := hown'.frozenAt k
      have R := copyW_step Hn.out hlt hx hown' hnx'
      obtain ⟨v0, hv0⟩ : ∃ v0, wr.cell? ⟨w.heap.size, k, none⟩ = some (.int .u32 v0) := by
        rw [hown'.cellAt k (by omega)]
        have hl : k < (laidTo 0 zs k).length := by
          have := hown'.1
          simp [words] at this
          omega
        rw [words, List.getElem?_map, List.getElem?_eq_getElem hl]
        exact ⟨_, rfl⟩
      clear hown' hnx' hc hx
      go_wp2
      go_roundw
      case rel => exact ⟨k + 1, by omega, by go_num, R.1, R.2⟩
      case measure => simp [intOf]; omega
    · have hkn : k = n := by omega
      have h2 : laidTo 0 zs n = zs := by rw [Hn.out]; exact laidTo_all _ _
      have H2 : Hid (laidTo 0 zs n = zs) := h2
      clear h2
      subst hkn
      go_wp2
      go_ret
      rw [H2.out] at hown'
      exact ⟨rfl, hown', hnx'⟩

theorem copy11 (a : Option Addr) (cap : Nat) (zs : List Int) (w : World) (hn : zs.length ≤ 4096) (h0 : a = none → zs.length = 0 ∧ cap = 0)
    (hr : zs = [] ∨ ∃ b off, a = some ⟨b, off, none⟩ ∧ b < w.heap.size ∧ ∀ j, j < zs.length → w.cell? ⟨b, off + j, none⟩ = some (.int .u32 (zs.getD j 0))) :
    Calls Try.prog 11 #[.slice a zs.length cap] w fun e w' => ∃ v, e = .returned v ∧ w'.ownsRow w.heap.size 34 1 v zs.length (words zs) ∧ Below w.heap.size w w' := by
  cases a with
  | none =>
    obtain ⟨h1, rfl⟩ := h0 rfl
    have : zs = [] := List.eq_nil_of_length_eq_zero h1
    subst this
    refine (copyW_nil w).mono ?_
    rintro e w' ⟨rfl, rfl⟩
    exact ⟨_, rfl, World.ownsRow_nil _ _ _ _, Below.refl _ _⟩
  | some ad =>
    by_cases hz : zs = []
    · subst hz
      refine (copyW_empty ad cap w).mono ?_
      rintro e w' ⟨rfl, h1, h2⟩
      exact ⟨_, rfl, h1, h2⟩
    · rcases hr with rfl | ⟨b, off, h1, hb, hc⟩
      · exact absurd rfl hz
      cases h1
      refine (copyW_more b off cap zs w hn (List.length_pos_iff.2 hz) hb hc).mono ?_
      rintro e w' ⟨rfl, h1, h2⟩
      exact ⟨_, rfl, h1, h2⟩

theorem sans_take_keep {ss : List ByteArray} {s x : ByteArray} {k : Nat} (hk : k < ss.length) (hx : x = ss.getD k ByteArray.empty) (hne : x ≠ s) : sans (ss.take (k + 1)) s = sans (ss.take k) s ++ [x] := by
  rw [getD_at hk] at hx
  subst hx
  rw [List.take_succ_eq_append_getElem hk]
  unfold sans
  rw [List.filter_append, List.filter_cons, if_pos (by simp [hne])]
  rfl
theorem sans_take_drop {ss : List ByteArray} {s x : ByteArray} {k : Nat} (hk : k < ss.length) (hx : x = ss.getD k ByteArray.empty) (he : x = s) : sans (ss.take (k + 1)) s = sans (ss.take k) s := by
  rw [getD_at hk] at hx
  rw [List.take_succ_eq_append_getElem hk, ← hx, he]
  simp [sans, List.filter_append]
theorem sans_le {ss : List ByteArray} {s : ByteArray} {k : Nat} : (sans (ss.take k) s).length ≤ k := Nat.le_trans (List.length_filter_le _ _) (by simp; omega)

set_option maxHeartbeats 400000 in
theorem without13_more (b off cap : Nat) (ss : List ByteArray) (s : ByteArray) (w : World) (hn : ss.length ≤ 4096) (hb : b < w.heap.size)
    (hc : ∀ j, j < ss.length → w.cell? ⟨b, off + j, none⟩ = some (.string (ss.getD j ByteArray.empty))) :
    Calls Try.prog 13 #[.slice (some ⟨b, off, none⟩) ss.length cap, .string s] w fun e w' => ∃ v, e = .returned v ∧ w'.ownsRow w.heap.size 9 1 v (sans ss s).length (strs (sans ss s)) ∧ Below w.heap.size w w' := by
  obtain ⟨i0, hi, hz0, hz1, hz2⟩ := info_parts info9
  obtain ⟨n, hnn⟩ : ∃ n, n = ss.length := ⟨_, rfl⟩
  rw [← hnn] at hn hc ⊢
  have Hn : Hid (n = ss.length) := hnn
  clear hnn
  go_enter Try.func13, Try.ntmps13
  go_wp2_with (at_make; refine wpList_make_own _ rfl _ _ 22 rfl w.heap.size 9 i0 (.string ByteArray.empty) 1 Try.underlying22 hi hz0 hz1 _ _ _ n rfl rfl rfl (by rw [hz2]; omega) (by unfold maxLen; omega) (Nat.le_refl _) ?_)
  intro w1 hown hg
  have hnx := (Below.refl w.heap.size w).grown hg (Nat.le_refl _) (fun k hk => by cases hk)
  clear hg
  go_wp2
  go_loopw [5, 6] (fun v i wr => ∃ k : Nat, k ≤ n ∧ i = .int .i64 k ∧ wr.ownsRow w.heap.size 9 1 v (sans (ss.take k) s).length (strs (sans (ss.take k) s)) ∧ Below w.heap.size w wr) (fun _ i _ => n - (intOf i).toNat)
  case atStart => exact ⟨0, Nat.zero_le _, rfl, hown, hnx⟩
  case round =>
    obtain ⟨k, hk, rfl, hown', hnx'⟩ := hrel
    clear hown hnx
    by_cases hlt : k < n
    · obtain ⟨x, hx⟩ : ∃ x, x = ss.getD k ByteArray.empty := ⟨_, rfl⟩
      have hcell : wr.cell? ⟨b, off + k, none⟩ = some (.string x) := by rw [hx]; exact (hnx'.cell (by exact hb)).trans (hc k hlt)
      have Hx : Hid (x = ss.getD k ByteArray.empty) := hx
      have hle := sans_le (ss := ss) (s := s) (k := k)
      clear hc hx
      by_cases he : x = s
      · have hse : (x.toList == s.toList) = true := by rw [he]; exact str_self s
        have hse' : (x.toList != s.toList) = false := by simp [he]
        have Hs := sans_take_drop (Hn.out ▸ hlt) Hx.out he
        have HH : Hid (sans (ss.take (k + 1)) s = sans (ss.take k) s) := Hs
        clear Hs he
        go_wp2
        go_roundw
        case rel => exact ⟨k + 1, by omega, by go_num, by rw [HH.out]; exact hown', hnx'⟩
        case measure => simp [intOf]; omega
      · have hse : (x.toList == s.toList) = false := by
          cases h : (x.toList == s.toList)
          · rfl
          · exact absurd (str_eq h) he
        have hse' : (x.toList != s.toList) = true := by simp [bne, hse]
        have Hs := sans_take_keep (Hn.out ▸ hlt) Hx.out he
        have HH : Hid (sans (ss.take (k + 1)) s = sans (ss.take k) s ++ [x]) := Hs
        clear Hs he
        go_wp2_with (at_builtin; refine wpList_append_own _ rfl _ _ 22 rfl w.heap.size 9 i0 (.string ByteArray.empty) 1 16 Try.underlying22 hi hz0 hz1 hz2 rfl (by decide) _ _ _ rfl (hown'.alloc _) ⟨wr.heap.size, 0, none⟩ 1 1 [.string x] rfl rfl (cell_one_new _ _ _) ?c2 ?c3 ?c4 ?c5 ?_)
        case c2 => intro u hu; simp at hu; subst hu; rfl
        case c3 => unfold maxLen; omega
        case c4 => omega
        case c5 => have := hnx'.size; simp; omega
        intro v' w2 hown2 hg2 _
        have hbel : Below w.heap.size w w2 := (hnx'.alloc hnx'.size _).grown hg2 (by have := hnx'.size; simp; omega) (fun j hj => ((hown'.lt j hj).1))
        have hown3 : w2.ownsRow w.heap.size 9 1 v' (sans (ss.take (k + 1)) s).length (strs (sans (ss.take (k + 1)) s)) := by
          rw [HH.out, List.length_append, strs, List.map_append]
          exact hown2
        clear hown2 hg2 hown' hnx' hse hse'
        go_wp2
        go_roundw
        case rel => exact ⟨k + 1, by omega, by go_num, hown3, hbel⟩
        case measure => simp [intOf]; omega
    · have hkn : k = n := by omega
      have h2 : ss.take n = ss := by rw [Hn.out]; exact List.take_length
      have H2 : Hid (ss.take n = ss) := h2
      clear h2 hc
      subst hkn
      go_wp2
      go_ret
      rw [H2.out] at hown'
      exact ⟨_, rfl, hown', hnx'⟩

set_option maxHeartbeats 400000 in
theorem without13_empty (a : Option Addr) (cap : Nat) (s : ByteArray) (w : World) :
    Calls Try.prog 13 #[.slice a 0 cap, .string s] w fun e w' => ∃ v, e = .returned v ∧ w'.ownsRow w.heap.size 9 1 v 0 [] ∧ Below w.heap.size w w' := by
  obtain ⟨i0, hi, hz0, hz1, hz2⟩ := info_parts info9
  go_enter Try.func13, Try.ntmps13
  go_wp2_with (at_make; refine wpList_make_own _ rfl _ _ 22 rfl w.heap.size 9 i0 (.string ByteArray.empty) 1 Try.underlying22 hi hz0 hz1 _ _ _ 0 rfl rfl rfl (by omega) (by unfold maxLen; omega) (Nat.le_refl _) ?_)
  intro w1 hown hg
  have hnx := (Below.refl w.heap.size w).grown hg (Nat.le_refl _) (fun k hk => by cases hk)
  clear hg
  go_wp2
  refine wp_loop_rounds 1 ?_
  rw [rounds_succ]
  go_wp2
  go_ret
  exact ⟨_, rfl, hown, hnx⟩

theorem lt_of_cell {w : World} {b o : Nat} {v : Value} (h : w.cell? ⟨b, o, none⟩ = some v) : b < w.heap.size := by
  simp only [World.cell?] at h
  cases hb : w.heap[b]? with
  | none => rw [hb] at h; cases h
  | some x => exact lt_of_block hb

theorem without13 (a : Option Addr) (cap : Nat) (ss : List ByteArray) (s : ByteArray) (w : World) (hn : ss.length ≤ 4096) (hr : StrAt w a ss) :
    Calls Try.prog 13 #[.slice a ss.length cap, .string s] w fun e w' => ∃ v, e = .returned v ∧ w'.ownsRow w.heap.size 9 1 v (sans ss s).length (strs (sans ss s)) ∧ Below w.heap.size w w' := by
  by_cases h0 : ss = []
  · subst h0
    exact without13_empty a cap s w
  · rcases hr with rfl | ⟨b, off, rfl, hc⟩
    · exact absurd rfl h0
    exact without13_more b off cap ss s w hn (lt_of_cell (hc 0 (List.length_pos_iff.2 h0))) hc
end Go.Proofs.Qxb6001032a
