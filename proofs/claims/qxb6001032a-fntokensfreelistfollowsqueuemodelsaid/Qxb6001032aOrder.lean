/- zzFreeOrder: the free list, oldest to newest. -/
import Derived.Test.Qxb6001032aMake
namespace Go.Proofs.Qxb6001032a
open Go.RowKit Go.Maps
set_option linter.unusedVariables false

/-! ### the readers of fields -/
theorem oldest31 (tb : Nat) (p) (w : World) (h : w.cell? ⟨tb, 1, none⟩ = some (.pointer p)) :
    Calls Try.prog 31 #[.pointer (some ⟨tb, 0, none⟩)] w fun e w' => e = .returned (.pointer p) ∧ w = w' := by
  go_enter Try.func31, Try.ntmps31
  go_wp2
  go_ret
  exact ⟨rfl, rfl⟩
theorem newest33 (tb : Nat) (p) (w : World) (h : w.cell? ⟨tb, 2, none⟩ = some (.pointer p)) :
    Calls Try.prog 33 #[.pointer (some ⟨tb, 0, none⟩)] w fun e w' => e = .returned (.pointer p) ∧ w = w' := by
  go_enter Try.func33, Try.ntmps33
  go_wp2
  go_ret
  exact ⟨rfl, rfl⟩
theorem frees34 (tb : Nat) (n : Int) (w : World) (h : w.cell? ⟨tb, 3, none⟩ = some (.int .i64 n)) :
    Calls Try.prog 34 #[.pointer (some ⟨tb, 0, none⟩)] w fun e w' => e = .returned (.int .i64 n) ∧ w = w' := by
  go_enter Try.func34, Try.ntmps34
  go_wp2
  go_ret
  exact ⟨rfl, rfl⟩
theorem resource32 (b : Nat) (s : ByteArray) (w : World) (h : w.cell? ⟨b, 0, none⟩ = some (.string s)) :
    Calls Try.prog 32 #[.pointer (some ⟨b, 0, none⟩)] w fun e w' => e = .returned (.string s) ∧ w = w' := by
  go_enter Try.func32, Try.ntmps32
  go_wp2
  go_ret
  exact ⟨rfl, rfl⟩
theorem isFree19 (b : Nat) (x : Bool) (w : World) (h : w.cell? ⟨b, 3, none⟩ = some (.bool x)) :
    Calls Try.prog 19 #[.pointer (some ⟨b, 0, none⟩)] w fun e w' => e = .returned (.bool x) ∧ w = w' := by
  go_enter Try.func19, Try.ntmps19
  go_wp2
  go_ret
  exact ⟨rfl, rfl⟩
theorem last20 (b : Nat) (x : Int) (w : World) (h : w.cell? ⟨b, 1, none⟩ = some (.int .u64 x)) :
    Calls Try.prog 20 #[.pointer (some ⟨b, 0, none⟩)] w fun e w' => e = .returned (.int .u64 x) ∧ w = w' := by
  go_enter Try.func20, Try.ntmps20
  go_wp2
  go_ret
  exact ⟨rfl, rfl⟩
theorem older27 (b : Nat) (p) (w : World) (h : w.cell? ⟨b, 4, none⟩ = some (.pointer p)) :
    Calls Try.prog 27 #[.pointer (some ⟨b, 0, none⟩)] w fun e w' => e = .returned (.pointer p) ∧ w = w' := by
  go_enter Try.func27, Try.ntmps27
  go_wp2
  go_ret
  exact ⟨rfl, rfl⟩
theorem newer28 (b : Nat) (p) (w : World) (h : w.cell? ⟨b, 5, none⟩ = some (.pointer p)) :
    Calls Try.prog 28 #[.pointer (some ⟨b, 0, none⟩)] w fun e w' => e = .returned (.pointer p) ∧ w = w' := by
  go_enter Try.func28, Try.ntmps28
  go_wp2
  go_ret
  exact ⟨rfl, rfl⟩


/-- What a walk of the free list meets at s. -/
theorem Tok.at_entry {w : World} {B tb n : Nat} {mo : Option Nat} {f : ByteArray → Option Nat} {l1 l2 : List ByteArray} {s : ByteArray} (h : Tok w B tb mo n f (l1 ++ s :: l2)) :
    ∃ b p q, f s = some b ∧ ptr (l1.getLast?.bind f) = .pointer p ∧ ptr (l2.head?.bind f) = .pointer q ∧ ∀ wr, Below w.heap.size w wr → wr.cell? ⟨b, 0, none⟩ = some (.string s) ∧ wr.cell? ⟨b, 3, none⟩ = some (.bool true) ∧ wr.cell? ⟨b, 4, none⟩ = some (.pointer p) ∧ wr.cell? ⟨b, 5, none⟩ = some (.pointer q) := by
  obtain ⟨b, hf⟩ := h.known s (by simp)
  obtain ⟨p, hp⟩ := ptr_pointer (l1.getLast?.bind f)
  obtain ⟨q, hq⟩ := ptr_pointer (l2.head?.bind f)
  have hnd := List.nodup_append.1 h.nodup
  have h1 : s ∉ l1 := fun hm => hnd.2.2 s hm s (by simp) rfl
  have h2 : s ∉ l2 := (List.nodup_cons.1 hnd.2.1).1
  refine ⟨b, p, q, hf, hp, hq, fun wr hb => ?_⟩
  have h' := h.below hb
  obtain ⟨c0, _, c3, c4, c5⟩ := h'.entCells hf
  rw [isIn_true.2 (by simp)] at c3
  rw [older_split h2, hp] at c4
  rw [newer_split h1, hq] at c5
  exact ⟨c0, c3, c4, c5⟩

theorem below_trans {w w1 w2 : World} (h1 : Below w.heap.size w w1) (h2 : Below w1.heap.size w1 w2) : Below w.heap.size w w2 := h1.trans (h2.mono h1.size)

theorem owns_below {w w' : World} {base : Nat} {e : TypeId} {size k : Nat} {v : Value} {xs : List Value} (h : w.ownsRow base e size v k xs) (hb : Below w.heap.size w w') : w'.ownsRow base e size v k xs :=
  h.kept (row := none) ⟨hb.os, hb.tape, hb.output, hb.size, fun j hj _ => hb.block j hj⟩ (by cases v.ownBlock <;> simp)

theorem rev_at {Q : List ByteArray} {k N : Nat} (hN : N = Q.length) (hk : k < N) : Q.reverse.getD (N - 1 - k) ByteArray.empty = Q.getD k ByteArray.empty := by
  subst hN
  rw [getD_at (by simp; omega), getD_at hk, List.getElem_reverse]
  congr 1
  omega

theorem owns_snoc {w wr : World} {base k : Nat} {v v' : Value} {l : List ByteArray} {s : ByteArray} {o : Obj} {wx : World} (hown : wr.ownsRow base 9 1 v k (strs l)) (hbase : base ≤ wr.heap.size) (hnx : Below base w wr)
    (hown2 : wx.ownsRow base 9 1 v' (k + 1) (strs l ++ [.string s])) (hg : (wr.alloc o).grownBy wx v.ownBlock) :
    wx.ownsRow base 9 1 v' (k + 1) (strs (l ++ [s])) ∧ Below base w wx := by
  refine ⟨?_, (hnx.alloc hbase _).grown hg (by simp; omega) (fun j hj => ((hown.lt j hj).1))⟩
  rw [strs, List.map_append]
  exact hown2

set_option maxHeartbeats 1000000 in
theorem order16 {w : World} {B tb n : Nat} {mo : Option Nat} {f : ByteArray → Option Nat} {Q : List ByteArray} (h : Tok w B tb mo n f Q) (lim : Int) (hl : (Q.length : Int) < lim) (hl' : lim ≤ 4097) :
    Calls Try.prog 16 #[.pointer (some ⟨tb, 0, none⟩), .int .i64 lim] w fun e w' => ∃ v, e = .returned (.tuple #[v, .bool true]) ∧ w'.ownsRow w.heap.size 9 1 v Q.length (strs Q) ∧ Below w.heap.size w w' := by
  obtain ⟨i0, hi, hz0, hz1, hz2⟩ := info_parts info9
  obtain ⟨q1, hq1⟩ := ptr_pointer (Q.head?.bind f)
  obtain ⟨q2, hq2⟩ := ptr_pointer (Q.getLast?.bind f)
  obtain ⟨t0, t1, t2, t3, t4⟩ := h.tokCells
  rw [hq1] at t1
  rw [hq2] at t2
  have Hq1 : Hid (ptr (Q.head?.bind f) = .pointer q1) := hq1
  have Hq2 : Hid (ptr (Q.getLast?.bind f) = .pointer q2) := hq2
  have Hi : Hid (Try.prog.info? 9 = some i0 ∧ i0.zero = some (Value.string ByteArray.empty) ∧ i0.size = 1 ∧ i0.bytes = 16) := ⟨hi, hz0, hz1, hz2⟩
  have HT : Hid (Tok w B tb mo n f Q) := h
  obtain ⟨N, hN⟩ : ∃ N, N = Q.length := ⟨_, rfl⟩
  rw [← hN] at hl t3
  have HN : Hid (N = Q.length) := hN
  clear hq1 hq2 hi hz0 hz1 hz2 h t0 t4 hN
  have htb := lt_of_cell t1
  go_enter Try.func16, Try.ntmps16
  go_wp2_with (go_at_call 31; refine (oldest31 tb q1 w t1).mono ?_; rintro e w' ⟨rfl, rfl⟩)
  go_loopw [6, 7, 8] (fun v p st wr => ∃ l1 l2, Hid (Q = l1 ++ l2) ∧ p = ptr (l2.head?.bind f) ∧ st = .int .i64 (l1.length : Int) ∧ wr.ownsRow w.heap.size 9 1 v l1.length (strs l1) ∧ Below w.heap.size w wr) (fun _ _ st _ => N - (intOf st).toNat)
  case atStart => exact ⟨[], Q, rfl, Hq1.out.symm, rfl, World.ownsRow_nil _ _ _ _, Below.refl _ _⟩
  case round =>
    obtain ⟨l1, l2, hQ, rfl, rfl, hown, hnx⟩ := hrel
    rcases l2 with _ | ⟨s, l2⟩
    · rw [show ptr (([] : List ByteArray).head?.bind f) = .pointer none from rfl]
      have r2 : wr.cell? ⟨tb, 2, none⟩ = some (.pointer q2) := (hnx.cell (by exact htb)).trans t2
      have r3 : wr.cell? ⟨tb, 3, none⟩ = some (.int .i64 N) := (hnx.cell (by exact htb)).trans t3
      have hlN : l1.length = N := by rw [HN.out, hQ.out]; simp
      rw [hlN] at hown ⊢
      have hlQ : l1 = Q := by rw [hQ.out]; simp
      rw [hlQ] at hown
      clear hlQ hlN hQ t1 t2 t3
      have htr : tb < wr.heap.size := lt_of_cell r2
      go_wp2_with (go_at_call 33; refine (newest33 tb q2 wr r2).mono ?_; rintro e w' ⟨rfl, rfl⟩)
      obtain ⟨B1, hB1⟩ : ∃ B1, B1 = wr.heap.size := ⟨_, rfl⟩
      have HB1 : Hid (B1 = wr.heap.size) := hB1
      clear hB1
      go_loopw [8, 9, 10] (fun st v p wr' => ∃ m1 m2, Hid (Q = m1 ++ m2) ∧ p = ptr (m1.getLast?.bind f) ∧ st = .int .i64 (m2.length : Int) ∧ wr'.ownsRow B1 9 1 v m2.length (strs m2.reverse) ∧ Below B1 wr wr') (fun st _ _ _ => N - (intOf st).toNat)
      case atStart => exact ⟨Q, [], (List.append_nil Q).symm, Hq2.out.symm, rfl, World.ownsRow_nil _ _ _ _, Below.refl _ _⟩
      case round =>
        obtain ⟨m1, m2, hQ, rfl, rfl, hown', hnx'⟩ := hrel
        have hnw := below_trans hnx (HB1.out ▸ hnx')
        have hBs : B1 ≤ wr.heap.size := by rw [HB1.out]; exact hnx'.size
        rcases List.eq_nil_or_concat m1 with rfl | ⟨m1, s, rfl⟩
        · rw [show ptr (([] : List ByteArray).getLast?.bind f) = .pointer none from rfl]
          have hmQ : m2 = Q := by rw [hQ.out]; simp
          rw [hmQ, ← HN.out] at hown'
          rw [hmQ, ← HN.out]
          clear hmQ hQ
          have s3 : wr.cell? ⟨tb, 3, none⟩ = some (.int .i64 N) := (hnx'.cell (by rw [HB1.out]; exact htr)).trans r3
          clear r2 r3
          obtain ⟨a1, k1, hv1, hs1, _⟩ := owns_strAt (ss := Q) (HN.out ▸ hown)
          obtain ⟨a2, k2, hv2, hs2, _⟩ := owns_strAt (ss := Q.reverse) (by rw [List.length_reverse, ← HN.out]; exact hown')
          rw [List.length_reverse] at hv2
          rw [← HN.out] at hv1 hv2
          subst hv1 hv2
          have HO : Hid (wr.ownsRow w.heap.size 9 1 (.slice a1 N k1) N (strs Q)) := owns_below hown (HB1.out ▸ hnx')
          have htr2 : tb < wr.heap.size := lt_of_cell s3
          have hN64 : N ≤ 4096 := by omega
          by_cases hN0 : N = 0
          · subst hN0
            clear hown hown' hs1 hs2 hnx hnx'
            go_wp2
            refine wp_loop_rounds 1 ?_
            rw [rounds_succ]
            go_wp2_with (go_at_call 34; refine (frees34 tb _ wr s3).mono ?_; rintro e w' ⟨rfl, rfl⟩)
            go_ret2
            exact ⟨_, rfl, by rw [← HN.out]; exact HO.out, hnw⟩
          · rcases hs1 with h0 | ⟨g1, o1, rfl, hc1⟩
            · exact absurd (by rw [HN.out, h0]; rfl) hN0
            rcases hs2 with h0 | ⟨g2, o2, rfl, hc2⟩
            · exact absurd (by rw [HN.out, ← List.length_reverse, h0]; rfl) hN0
            rw [List.length_reverse, ← HN.out] at hc2
            rw [← HN.out] at hc1
            have hd1 : ∀ j, j < N → wr.cell? ⟨g1, o1 + j, none⟩ = some (.string (Q.getD j ByteArray.empty)) := fun j hj => by
              have := hc1 j hj
              rw [← this]
              exact (HB1.out ▸ hnx').cell (lt_of_cell this)
            clear hown hown' hnx hnx' hc1 hN0
            go_wp2
            go_loopw [11] (fun i wr' => ∃ k : Nat, k ≤ N ∧ i = .int .i64 k ∧ ∃ m, wr' = wr.drewN m) (fun i _ => N - (intOf i).toNat)
            case atStart => exact ⟨0, Nat.zero_le _, rfl, 0, rfl⟩
            case round =>
              obtain ⟨k, hk, rfl, m, rfl⟩ := hrel
              by_cases hlt : k < N
              · have e1 := hd1 k hlt
                have e2 := hc2 (N - 1 - k) (by omega)
                rw [rev_at HN.out hlt] at e2
                generalize Q.getD k ByteArray.empty = x at e1 e2
                have hse := str_self x
                clear hd1 hc2 s3
                go_wp2
                go_region
                go_wp2
                go_roundw
                case rel => exact ⟨k + 1, by omega, by go_num, m + 1, rfl⟩
                case measure => simp [intOf]; omega
              · clear hd1 hc2
                go_wp2_with (go_at_call 34; refine (frees34 tb N _ (by exact s3)).mono ?_; rintro e w' ⟨rfl, rfl⟩)
                go_ret2
                exact ⟨_, rfl, by rw [← HN.out]; exact HO.out, ⟨hnw.os, hnw.tape, hnw.output, hnw.size, hnw.block⟩⟩
        · rw [List.concat_eq_append] at hQ ⊢
          obtain ⟨b, p, q, hf, hp, hq, hcs⟩ := Tok.at_entry (l1 := m1) (s := s) (l2 := m2) (by have := HT.out; rw [hQ.out, List.append_assoc] at this; exact this)
          obtain ⟨c0, c3, c4, _⟩ := hcs wr hnw
          have HC : Hid (∀ wr, Below w.heap.size w wr → wr.cell? ⟨b, 0, none⟩ = some (.string s) ∧ wr.cell? ⟨b, 3, none⟩ = some (.bool true) ∧ wr.cell? ⟨b, 4, none⟩ = some (.pointer p) ∧ wr.cell? ⟨b, 5, none⟩ = some (.pointer q)) := hcs
          rw [show ptr ((m1 ++ [s]).getLast?.bind f) = .pointer (some ⟨b, 0, none⟩) from by simp [hf, ptr]]
          have Hp : Hid (ptr (m1.getLast?.bind f) = .pointer p) := hp
          have hlen : m2.length < N := by rw [HN.out, hQ.out]; simp; omega
          clear hf hp hq hcs hown r2 r3
          go_wp2_with (first
            | (at_builtin; refine wpList_append_own _ rfl _ _ 22 rfl B1 9 i0 (.string ByteArray.empty) 1 16 Try.underlying22 Hi.out.1 Hi.out.2.1 Hi.out.2.2.1 Hi.out.2.2.2 rfl (by decide) _ _ _ rfl (hown'.alloc _) ⟨wr.heap.size, 0, none⟩ 1 1 [.string s] rfl rfl (cell_one_new _ _ _) ?d2 ?d3 ?d4 ?d5 ?_)
            | (go_at_call 19; refine (isFree19 b true wr c3).mono ?_; rintro e w' ⟨rfl, rfl⟩)
            | (go_at_call 32; refine (resource32 b s wr c0).mono ?_; rintro e w' ⟨rfl, rfl⟩))
          case d2 => intro u hu; simp at hu; subst hu; rfl
          case d3 => unfold maxLen; omega
          case d4 => omega
          case d5 => simp; omega
          intro v' w2 hown2 hg2 _
          have R := owns_snoc hown' hBs hnx' hown2 hg2
          have c4' := (HC.out w2 (below_trans hnx (HB1.out ▸ R.2))).2.2.1
          clear hown2 hg2 hown' hnx' c0 c3 c4 hnw
          go_wp2_with (go_at_call 27; refine (older27 b p w2 c4').mono ?_; rintro e w' ⟨rfl, rfl⟩)
          go_roundw
          case rel => exact ⟨m1, s :: m2, (show Q = m1 ++ s :: m2 by rw [hQ.out, List.append_assoc]; rfl), Hp.out.symm, by go_num, by rw [List.reverse_cons]; exact R.1, R.2⟩
          case measure => simp [intOf]; omega
    · obtain ⟨b, p, q, hf, hp, hq, hcs⟩ := Tok.at_entry (l1 := l1) (s := s) (l2 := l2) (by have := HT.out; rw [hQ.out] at this; exact this)
      obtain ⟨c0, c3, _, c5⟩ := hcs wr hnx
      have HC : Hid (∀ wr, Below w.heap.size w wr → wr.cell? ⟨b, 0, none⟩ = some (.string s) ∧ wr.cell? ⟨b, 3, none⟩ = some (.bool true) ∧ wr.cell? ⟨b, 4, none⟩ = some (.pointer p) ∧ wr.cell? ⟨b, 5, none⟩ = some (.pointer q)) := hcs
      clear hcs
      rw [show ptr ((s :: l2).head?.bind f) = .pointer (some ⟨b, 0, none⟩) from by simp [hf, ptr]]
      have Hq : Hid (ptr (l2.head?.bind f) = .pointer q) := hq
      have hlen : l1.length < N := by rw [HN.out, hQ.out]; simp
      clear hf hp hq
      go_wp2_with (first
        | (at_builtin; refine wpList_append_own _ rfl _ _ 22 rfl w.heap.size 9 i0 (.string ByteArray.empty) 1 16 Try.underlying22 Hi.out.1 Hi.out.2.1 Hi.out.2.2.1 Hi.out.2.2.2 rfl (by decide) _ _ _ rfl (hown.alloc _) ⟨wr.heap.size, 0, none⟩ 1 1 [.string s] rfl rfl (cell_one_new _ _ _) ?c2 ?c3 ?c4 ?c5 ?_)
        | (go_at_call 19; refine (isFree19 b true wr c3).mono ?_; rintro e w' ⟨rfl, rfl⟩)
        | (go_at_call 32; refine (resource32 b s wr c0).mono ?_; rintro e w' ⟨rfl, rfl⟩))
      case c2 => intro u hu; simp at hu; subst hu; rfl
      case c3 => unfold maxLen; omega
      case c4 => omega
      case c5 => have := hnx.size; simp; omega
      intro v' w2 hown2 hg2 _
      have R := owns_snoc hown hnx.size hnx hown2 hg2
      have c5' := (HC.out w2 R.2).2.2.2
      clear hown2 hg2 hown hnx c0 c3 c5
      go_wp2_with (go_at_call 28; refine (newer28 b q w2 c5').mono ?_; rintro e w' ⟨rfl, rfl⟩)
      go_roundw
      case rel => exact ⟨l1 ++ [s], l2, (show Q = l1 ++ [s] ++ l2 by rw [List.append_assoc]; exact hQ.out), Hq.out.symm, by simp, by rw [List.length_append]; exact R.1, R.2⟩
      case measure => simp [intOf]; omega
end Go.Proofs.Qxb6001032a
