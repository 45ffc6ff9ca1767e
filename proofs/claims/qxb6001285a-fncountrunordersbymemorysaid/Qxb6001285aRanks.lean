/- gpuRanks. -/
import Derived.Test.Qxb6001285aCopy
import Derived.Maps.AppendAt
namespace Go.Proofs.Qxb6001285a
open Go.RowKit
set_option linter.unusedVariables false

theorem info21b : (Try.prog.info? 21).map (fun i => (i.zero, i.size, i.bytes)) = some (some (.int .i32 0), 1, 4) := by kernel_rfl

theorem Hid.mk' {p : Prop} (h : p) : Hid p := h

def nums (L : List Int) : List Value := L.map (Value.int .i64)
theorem nums_length (L : List Int) : (nums L).length = L.length := by simp [nums]
theorem nums_at (L : List Int) (i : Nat) (h : i < L.length) : (nums L)[i]? = some (.int .i64 L[i]) := by simp [nums, h]
theorem nums_set (L : List Int) (i : Nat) (x : Int) : nums (L.set i x) = (nums L).set i (.int .i64 x) := by simp [nums, List.map_set]

/-- What gpuRanks leaves. -/
def Ranked (w : World) (n : Nat) (e : Ending) (w' : World) : Prop :=
  ∃ (d gr : Nat) (rank : Nat → Int), e = .returned (.tuple #[.slice (some ⟨gr, 0, none⟩) n n, .int .i64 (d : Int)]) ∧ IntRow w' gr 21 n .i32 rank ∧ (∀ i, i < n → 1 ≤ rank i ∧ rank i ≤ (d : Int)) ∧ d ≤ n ∧ w.heap.size ≤ gr ∧ Below w.heap.size w w'

/-- distinct holds L; each of the first k numbers is in it. -/
def Dist (w wr : World) (f : Nat → Int) (n m k : Nat) (L : List Int) : Prop :=
  L.length = m ∧ wr.ownsRow w.heap.size 2 1 (.slice (some ⟨w.heap.size, 0, none⟩) m n) m (nums L) ∧ Below w.heap.size w wr ∧ ∀ i, i < k → f i ∈ L

/-- distinct while its places from j on are shifted. -/
def Shift (w wr : World) (n m j : Nat) (z : Int) (L : List Int) : Prop :=
  wr.ownsRow w.heap.size 2 1 (.slice (some ⟨w.heap.size, 0, none⟩) (m + 1) n) (m + 1) (nums (L.take j ++ [z] ++ L.drop j)) ∧ Below w.heap.size w wr

theorem Shift.step {w wr : World} {n m j : Nat} {z : Int} {L : List Int} (h : Shift w wr n m (j + 1) z L) (hL : L.length = m) (hj : j < m) : ∃ y, wr.cell? ⟨w.heap.size, j, none⟩ = some (.int .i64 y) ∧ (∃ v, wr.cell? ⟨w.heap.size, j + 1, none⟩ = some (.int .i64 v)) ∧ wr.frozen? ⟨w.heap.size, j + 1, none⟩ = false ∧ Shift w (wr.setCell ⟨w.heap.size, j + 1, none⟩ (.int .i64 y)) n m j y L := by
  obtain ⟨hO, hB⟩ := h
  have hs := shift_step L z (j + 1) (by omega) (by omega)
  simp only [Nat.add_sub_cancel] at hs
  have hlen : (L.take (j + 1) ++ [z] ++ L.drop (j + 1)).length = m + 1 := by simp; omega
  refine ⟨L[j]'(by omega), ?_, ⟨(L.take (j + 1) ++ [z] ++ L.drop (j + 1))[j + 1]'(by omega), ?_⟩, hO.frozenAt _, ?_, hB.setCell (Nat.le_refl _) _⟩
  · rw [hO.cellAt j (by omega), nums_at _ _ (by omega)]
    congr 2
    rw [List.getElem_append_left (by simp; omega), List.getElem_append_left (by simp; omega), List.getElem_take]
  · rw [hO.cellAt (j + 1) (by omega), nums_at _ _ (by omega)]
  · have h1 := (hO.stored (j + 1) (.int .i64 (L[j]'(by omega)))).1
    rw [← nums_set, hs] at h1
    exact h1

theorem Shift.last {w wr : World} {n m i k : Nat} {z x : Int} {L : List Int} {f : Nat → Int} (h : Shift w wr n m i z L) (hL : L.length = m) (hi : i ≤ m) (hf : ∀ i, i < k → f i ∈ L) (hx : x = f k) : (∃ v, wr.cell? ⟨w.heap.size, i, none⟩ = some (.int .i64 v)) ∧ wr.frozen? ⟨w.heap.size, i, none⟩ = false ∧
    ∃ L', Dist w (wr.setCell ⟨w.heap.size, i, none⟩ (.int .i64 x)) f n (m + 1) (k + 1) L' := by
  obtain ⟨hO, hB⟩ := h
  have hlen : (L.take i ++ [z] ++ L.drop i).length = m + 1 := by simp; omega
  refine ⟨⟨(L.take i ++ [z] ++ L.drop i)[i]'(by omega), ?_⟩, hO.frozenAt _, L.take i ++ [x] ++ L.drop i, by simp; omega, ?_, hB.setCell (Nat.le_refl _) _, ?_⟩
  · rw [hO.cellAt i (by omega), nums_at _ _ (by omega)]
  · have h1 := (hO.stored i (.int .i64 x)).1
    rw [← nums_set] at h1
    have e : (L.take i ++ [z] ++ L.drop i).set i x = L.take i ++ [x] ++ L.drop i := by
      rw [List.set_append, if_pos (by simp; omega), List.set_append, if_neg (by simp; omega)]
      simp [Nat.min_eq_left (show i ≤ L.length by omega)]
    rw [e] at h1
    exact h1
  · intro j hj
    by_cases e : j = k
    · subst e; subst hx; simp
    · have := hf j (by omega)
      rw [← List.take_append_drop i L] at this
      rcases List.mem_append.1 this with h | h
      · exact List.mem_append_left _ (List.mem_append_left _ h)
      · exact List.mem_append_right _ h

theorem Dist.grow {w wr w1 : World} {n m k : Nat} {L : List Int} {f : Nat → Int} (h : Dist w wr f n m k L) {o : Obj} (ho : w1.ownsRow w.heap.size 2 1 (.slice (some ⟨w.heap.size, 0, none⟩) (m + 1) n) (m + 1) (nums L ++ [.int .i64 0])) (hg : (wr.alloc o).grownBy w1 (some w.heap.size)) : Shift w w1 n m m 0 L := by
  obtain ⟨hL, hO, hB, hf⟩ := h
  refine ⟨?_, (hB.alloc hB.size o).grown hg (hB.alloc hB.size o).size (fun k hk => by cases hk; exact Nat.le_refl _)⟩
  have e : nums (L.take m ++ [0] ++ L.drop m) = nums L ++ [.int .i64 0] := by
    subst hL
    simp [nums]
  rw [e]
  exact ho

set_option maxRecDepth 100000 in
set_option maxHeartbeats 2000000 in
theorem ranks14 {w : World} {n : Nat} {f : Nat → Int} (g : Nat) (hg : IntRow w g 2 n .i64 f) (hn : n ≤ 4096) (hpos : 0 < n) :
    Calls Try.prog 14 #[.slice (some ⟨g, 0, none⟩) n n] w (Ranked w n) := by
  obtain ⟨i0, hinf, hz0, hz1, hz2⟩ := info_parts info2
  obtain ⟨i1, kinf, kz0, kz1, kz2⟩ := info_parts info21b
  have hgl := hg.lt
  have Hg : Hid (IntRow w g 2 n .i64 f) := hg
  clear hg
  go_enter Try.func14, Try.ntmps14
  go_wp2_with (at_make; refine wpList_make_own _ rfl _ _ 22 rfl w.heap.size 2 i0 (.int .i64 0) 1 Try.underlying22 hinf hz0 hz1 _ _ _ n rfl rfl rfl (by rw [hz2]; omega) (by unfold maxLen; omega) (Nat.le_refl _) ?_)
  intro w1 hown hgr
  have H0 : Hid (Dist w w1 f n 0 0 []) := ⟨rfl, hown, (Below.refl w.heap.size w).grown hgr (Nat.le_refl _) (fun k hk => by cases hk), fun i hi => (by omega)⟩
  clear hown hgr hz0 hz2
  go_wp2_with fail
  go_loopw [4, 18] (fun dv kv wr => ∃ (k m : Nat) (L : List Int), k ≤ n ∧ m ≤ k ∧ dv = .slice (some ⟨w.heap.size, 0, none⟩) m n ∧ kv = .int .i64 k ∧ Hid (Dist w wr f n m k L)) (fun _ kv _ => n - (intOf kv).toNat)
  case atStart => exact ⟨0, 0, [], Nat.zero_le _, Nat.le_refl _, rfl, rfl, H0⟩
  case round =>
    obtain ⟨k, m, L, hk, hm, rfl, rfl, HD⟩ := hrel
    clear H0
    by_cases hlt : k < n
    · obtain ⟨x, hx⟩ : ∃ x, x = f k := ⟨_, rfl⟩
      have HX : Hid (x = f k) := hx
      have cx : wr.cell? ⟨g, k, none⟩ = some (.int .i64 x) := by rw [hx]; exact (HD.out.2.2.1.cell (by exact hgl)).trans (Hg.out.cell hlt)
      clear hx
      go_wp2_with fail
      clear cx
      go_loop [7] (fun iv => ∃ i : Nat, i ≤ m ∧ iv = .int .i64 i) (fun iv => m - (intOf iv).toNat)
      case atStart => exact ⟨0, Nat.zero_le _, rfl⟩
      case round =>
        obtain ⟨i, hi, rfl⟩ := hrel
        by_cases hil : i < m
        · obtain ⟨y, cy, hyL⟩ : ∃ y, wr.cell? ⟨w.heap.size, i, none⟩ = some (.int .i64 y) ∧ y ∈ L := by
            obtain ⟨hL, hO, _⟩ := HD.out
            refine ⟨L[i]'(by omega), ?_, List.getElem_mem _⟩
            rw [hO.cellAt i (by omega), nums_at _ _ (by omega)]
          by_cases hyx : x < y
          · go_wp2_with fail
            go_round
            case rel => exact ⟨i + 1, by omega, by go_num⟩
            case measure => simp [intOf]; omega
          · by_cases hye : y = x
            · have hyb : (y == x) = true := by rw [beq_iff_eq]; exact hye
              have HN : Hid (Dist w wr f n m (k + 1) L) := by
                obtain ⟨h1, h2, h3, h4⟩ := HD.out
                refine ⟨h1, h2, h3, fun j hj => ?_⟩
                by_cases e : j = k
                · rw [e, ← HX.out, ← hye]; exact hyL
                · exact h4 j (by omega)
              clear HD hyL
              subst hye
              go_wp2_with fail
              go_roundw
              case rel => exact ⟨k + 1, m, L, by omega, by omega, rfl, by go_num, HN⟩
              case measure => simp [intOf]; omega
            · have hyb : (y == x) = false := by rw [beq_eq_false_iff_ne]; exact hye
              clear hyL
              go_wp2_with (at_builtin; refine wpList_append_fits _ rfl (.tmp 48) (.tmp 49) 22 rfl w.heap.size 2 i0 1 Try.underlying22 hinf hz1 w.heap.size m n (nums L) rfl (HD.out.2.1.alloc _) ⟨wr.heap.size, 0, none⟩ 1 1 [.int .i64 0] rfl rfl (cell_one_new _ _ _) (by intro u hu; simp at hu; subst hu; rfl) (by omega) ?_; intro w2 hown1 hgrow1)
              have HS : Hid (Shift w w2 n m m 0 L) := HD.out.grow hown1 hgrow1
              have HF : Hid (L.length = m ∧ ∀ i, i < k → f i ∈ L) := ⟨HD.out.1, HD.out.2.2.2⟩
              clear hown1 hgrow1 HD
              go_wp2_with fail
              go_loopw [8] (fun jv wr' => ∃ (j : Nat) (z : Int), i ≤ j ∧ j ≤ m ∧ jv = .int .i64 j ∧ Hid (Shift w wr' n m j z L)) (fun jv _ => (intOf jv).toNat)
              case atStart => exact ⟨m, 0, by omega, Nat.le_refl _, (by first | rfl | go_num), HS⟩
              case round =>
                obtain ⟨j, z, hij, hjm, rfl, HT⟩ := hrel
                clear HS
                by_cases hjl : i < j
                · obtain ⟨j', rfl⟩ : ∃ j', j = j' + 1 := ⟨j - 1, by omega⟩
                  obtain ⟨y', cy', ⟨v, cv⟩, fv, hS'⟩ := HT.out.step HF.out.1 (by omega)
                  have HS' : Hid (Shift w (wr.setCell ⟨w.heap.size, j' + 1, none⟩ (.int .i64 y')) n m j' y' L) := hS'
                  clear hS' HT
                  go_wp2_with fail
                  go_roundw
                  case rel => exact ⟨j', y', by omega, by omega, by go_num, HS'⟩
                  case measure => first | (simp [intOf]; done) | (simp [intOf]; omega)
                · have hje : i = j := by omega
                  subst hje
                  obtain ⟨⟨v, cv⟩, fv, L', hL'⟩ := HT.out.last HF.out.1 (by omega) HF.out.2 HX.out
                  have HL : Hid (Dist w (wr.setCell ⟨w.heap.size, i, none⟩ (.int .i64 x)) f n (m + 1) (k + 1) L') := hL'
                  clear hL' HT
                  go_wp2_with fail
                  go_roundw
                  case rel => exact ⟨k + 1, m + 1, L', by omega, by omega, rfl, by go_num, HL⟩
                  case measure => simp [intOf]; omega
        · have hie : i = m := by omega
          subst hie
          go_wp2_with (at_builtin; refine wpList_append_fits _ rfl (.tmp 48) (.tmp 49) 22 rfl w.heap.size 2 i0 1 Try.underlying22 hinf hz1 w.heap.size i n (nums L) rfl (HD.out.2.1.alloc _) ⟨wr.heap.size, 0, none⟩ 1 1 [.int .i64 0] rfl rfl (cell_one_new _ _ _) (by intro u hu; simp at hu; subst hu; rfl) (by omega) ?_; intro w2 hown1 hgrow1)
          have HS : Hid (Shift w w2 n i i 0 L) := HD.out.grow hown1 hgrow1
          have HF : Hid (L.length = i ∧ ∀ i, i < k → f i ∈ L) := ⟨HD.out.1, HD.out.2.2.2⟩
          clear hown1 hgrow1 HD
          go_wp2_with fail
          go_loopw [8] (fun jv wr' => ∃ (j : Nat) (z : Int), i ≤ j ∧ j ≤ i ∧ jv = .int .i64 j ∧ Hid (Shift w wr' n i j z L)) (fun jv _ => (intOf jv).toNat)
          case atStart => exact ⟨i, 0, by omega, Nat.le_refl _, (by first | rfl | go_num), HS⟩
          case round =>
            obtain ⟨j, z, hij, hjm, rfl, HT⟩ := hrel
            clear HS
            by_cases hjl : i < j
            · exfalso; omega
            · have hje : i = j := by omega
              subst hje
              obtain ⟨⟨v, cv⟩, fv, L', hL'⟩ := HT.out.last HF.out.1 (by omega) HF.out.2 HX.out
              have HL : Hid (Dist w (wr.setCell ⟨w.heap.size, i, none⟩ (.int .i64 x)) f n (i + 1) (k + 1) L') := hL'
              clear hL' HT
              go_wp2_with fail
              go_roundw
              case rel => exact ⟨k + 1, i + 1, L', by omega, by omega, rfl, by go_num, HL⟩
              case measure => simp [intOf]; omega
    · have hkn : n = k := by omega
      subst hkn
      obtain ⟨wd, rfl⟩ : ∃ wd, wd = wr := ⟨wr, rfl⟩
      go_wp2_with (at_make; refine wpList_make_full _ rfl _ _ 26 rfl wd.heap.size 21 i1 (.int .i32 0) 1 Try.underlying26 kinf kz0 kz1 _ _ _ _ n rfl rfl rfl rfl (by rw [kz2]; omega) (by unfold maxLen; omega) (Nat.le_refl _) ?_)
      intro w2 hown2 hgr2
      have HR : Hid ((∃ rank, IntRow w2 wd.heap.size 21 n .i32 rank ∧ ∀ i, i < 0 → 1 ≤ rank i ∧ rank i ≤ (m : Int)) ∧ Below wd.heap.size wd w2) :=
        ⟨⟨_, row_made hown2, fun i hi => (by omega)⟩, (Below.refl wd.heap.size wd).grown hgr2 (Nat.le_refl _) (fun k hk => by cases hk)⟩
      clear hown2 hgr2 kinf kz0 kz1 kz2 hinf hz1
      go_wp2_with fail
      go_loopw [77] (fun kv wr2 => ∃ k : Nat, k ≤ n ∧ kv = .int .i64 k ∧ Hid ((∃ rank, IntRow wr2 wd.heap.size 21 n .i32 rank ∧ ∀ i, i < k → 1 ≤ rank i ∧ rank i ≤ (m : Int)) ∧ Below wd.heap.size wd wr2)) (fun kv _ => n - (intOf kv).toNat)
      case atStart => exact ⟨0, Nat.zero_le _, rfl, HR⟩
      case round =>
        obtain ⟨k, hk, rfl, HK⟩ := hrel
        clear HR
        obtain ⟨⟨rank, hrk, hrb⟩, hbel⟩ := HK.out
        by_cases hlt : k < n
        · obtain ⟨x, hx⟩ : ∃ x, x = f k := ⟨_, rfl⟩
          have hB := HD.out.2.2.1
          have hdl : w.heap.size < wd.heap.size := by
            rcases HD.out.2.1.2 with ⟨h1, _⟩ | ⟨g', cap', cur, h1, hbg, hgg, _⟩
            · simp at h1
            · simp at h1
              obtain ⟨rfl, rfl⟩ := h1
              exact lt_of_block hgg
          have cx : wr.cell? ⟨g, k, none⟩ = some (.int .i64 x) := by
            rw [hx, hbel.cell (by show g < wd.heap.size; omega)]
            exact (hB.cell (by exact hgl)).trans (Hg.out.cell hlt)
          obtain ⟨t, ht, hLt⟩ : ∃ t, ∃ h : t < m, L[t]'(by rw [HD.out.1]; exact h) = x := by
            have hmem := HD.out.2.2.2 k hlt
            rw [← hx] at hmem
            obtain ⟨t, h1, h2⟩ := List.mem_iff_getElem.1 hmem
            exact ⟨t, by rw [← HD.out.1]; exact h1, h2⟩
          have HC : Hid (∀ i (h : i < m), wr.cell? ⟨w.heap.size, i, none⟩ = some (.int .i64 (L[i]'(by rw [HD.out.1]; exact h)))) := by
            intro i hi
            rw [hbel.cell (by show w.heap.size < wd.heap.size; exact hdl), HD.out.2.1.cellAt i (by omega), nums_at _ _ (by rw [HD.out.1]; exact hi)]
          have cr := hrk.cell hlt
          have fr := hrk.free k
          have HS : Hid (∀ z : Nat, 1 ≤ z → z ≤ m → (∃ rank, IntRow (wr.setCell ⟨wd.heap.size, k, none⟩ (.int .i32 (z : Int))) wd.heap.size 21 n .i32 rank ∧ ∀ i, i < k + 1 → 1 ≤ rank i ∧ rank i ≤ (m : Int)) ∧ Below wd.heap.size wd (wr.setCell ⟨wd.heap.size, k, none⟩ (.int .i32 (z : Int)))) := by
            intro z hz1 hz2
            refine ⟨⟨_, hrk.set k z, fun i hi => ?_⟩, hbel.setCell (Nat.le_refl _) _⟩
            unfold upd
            by_cases e : i = k
            · rw [if_pos e]; omega
            · rw [if_neg e]; exact hrb i (by omega)
          have hLx : Hid (L[t]'(by rw [HD.out.1]; exact ht) = x) := hLt
          generalize rank k = zk at cr
          clear hrk hrb hbel HK hB hx hLt
          go_wp2_with fail
          go_loop [12] (fun iv => ∃ i : Nat, i ≤ t ∧ iv = .int .i64 i) (fun iv => m - (intOf iv).toNat)
          case atStart => exact ⟨0, Nat.zero_le _, rfl⟩
          case round =>
            obtain ⟨i, hi, rfl⟩ := hrel
            have him : i < m := by omega
            obtain ⟨y, hy⟩ : ∃ y, y = L[i]'(by rw [HD.out.1]; exact him) := ⟨_, rfl⟩
            have cy : wr.cell? ⟨w.heap.size, i, none⟩ = some (.int .i64 y) := by rw [hy]; exact HC.out i him
            have hit : ¬ y = x → i < t := by
              intro hne
              rcases Nat.lt_or_ge i t with h | h
              · exact h
              · exfalso
                have : i = t := by omega
                subst this
                exact hne (hy.trans hLx.out)
            clear hy
            by_cases hyx : y = x
            · clear hit
              subst hyx
              have HN := Hid.mk' (HS.out (i + 1) (by omega) (by omega))
              go_wp2_with fail
              go_roundw
              case rel => exact ⟨k + 1, by omega, by go_num, HN⟩
              case measure => simp [intOf]; omega
            · have hit' := hit hyx
              have hyb : (y != x) = true := by simp [hyx]
              clear hit
              go_wp2_with fail
              go_round
              case rel => exact ⟨i + 1, by omega, by go_num⟩
              case measure => simp [intOf]; omega
        · have hkn : n = k := by omega
          subst hkn
          go_wp2_with fail
          go_ret2
          exact ⟨m, wd.heap.size, rank, rfl, hrk, hrb, hm, HD.out.2.2.1.size, HD.out.2.2.1.trans (hbel.mono HD.out.2.2.1.size)⟩
end Go.Proofs.Qxb6001285a
