/- FnTokensUnlinkTakesOutExactlyOne: the walk. -/
import Derived.Test.Qxb6001032aArgs
namespace Go.Proofs.Qxb6001032a
open Go.RowKit Go.Maps
set_option linter.unusedVariables false

theorem below_drewN (w : World) (m : Nat) : Below w.heap.size w (w.drewN m) := ⟨rfl, rfl, rfl, Nat.le_refl _, fun _ _ => rfl⟩

/-- The early ways out. -/
theorem early7 (a0 : Option Addr) (cap0 : Nat) (rs : List ByteArray) (a1 : Option Addr) (n1 cap1 : Nat) (p : Int) (w : World) (hr0 : StrAt w a0 rs) (hn0 : rs.length ≤ maxLen) (hn1 : n1 ≤ maxLen)
    (hout : 4096 < rs.length ∨ 4096 < n1 ∨ rs.length = 0) :
    Calls Try.prog 7 #[.slice a0 rs.length cap0, .slice a1 n1 cap1, .int .u32 p] w fun e w' => e = .returned (.bool true) ∧ w' = w := by
  have H1 : Hid (∀ w', w' = w → Calls Try.prog 25 #[.slice a0 rs.length cap0, .slice a1 n1 cap1, .int .u32 p] w' fun e w'' => IsBool e ∧ w'' = w') := fun w' h => h ▸ bytes25 a0 cap0 a1 n1 cap1 p rs w hn0 hn1 hr0
  have H2 : Hid (∀ w', w' = w → Calls Try.prog 9 #[.slice a0 rs.length cap0, .slice a1 n1 cap1, .int .i64 0] w' fun e w'' => IsBool e ∧ w'' = w') := fun w' h => h ▸ over9 a0 cap0 a1 n1 cap1 0 rs w hn0 hn1 hr0
  clear hr0
  generalize rs.length = n0 at *
  unfold maxLen at hn0 hn1
  go_enter Try.func7, Try.ntmps7
  go_wp2_with fail
  refine (H1.out _ rfl).mono ?_
  rintro e w' ⟨⟨x, rfl⟩, rfl⟩
  cases x
  · go_wp2
    go_ret
    exact ⟨rfl, rfl⟩
  · rcases hout with h | h | h
    · go_wp2
      go_ret
      exact ⟨rfl, rfl⟩
    · go_wp2
      all_goals go_ret
      all_goals exact ⟨rfl, rfl⟩
    · subst h
      go_wp2_with (go_at_call 9; refine (H2.out _ rfl).mono ?_; rintro e w' ⟨⟨x, rfl⟩, rfl⟩; cases x)
      all_goals go_wp2
      all_goals go_ret
      all_goals exact ⟨rfl, rfl⟩


set_option maxHeartbeats 1000000 in
theorem main7 (a0 : Option Addr) (N M cap0 : Nat) (rs : List ByteArray) (a1 : Option Addr) (zs : List Int) (cap1 : Nat) (p : Int) (w : World) (hNN : N = rs.length) (hMM : M = zs.length) (hr0 : StrAt w a0 rs) (hr1 : WordAt w a1 zs) (h1nil : a1 = none → zs.length = 0 ∧ cap1 = 0)
    (hs : ∀ s ∈ rs, s.size ≤ maxLen) (hz : ∀ z ∈ zs, 0 ≤ z ∧ z ≤ 4294967295) (hp : 0 ≤ p ∧ p ≤ 4294967295) (hN : N ≤ 4096) (hM : M ≤ 4096) (hpos : 0 < N) :
    Calls Try.prog 7 #[.slice a0 N cap0, .slice a1 M cap1, .int .u32 p] w fun e w' => e = .returned (.bool true) ∧ Below w.heap.size w w' := by
  have H1 : Hid (Calls Try.prog 25 #[.slice a0 N cap0, .slice a1 M cap1, .int .u32 p] w fun e w' => IsBool e ∧ w = w') := by
    rw [hNN]
    exact (bytes25 a0 cap0 a1 M cap1 p rs w (by unfold maxLen; omega) (by unfold maxLen; omega) hr0).mono (fun e w'' h => ⟨h.1, h.2.symm⟩)
  have H2 : Hid (Calls Try.prog 9 #[.slice a0 N cap0, .slice a1 M cap1, .int .i64 0] w fun e w' => IsBool e ∧ w = w') := by
    rw [hNN]
    exact (over9 a0 cap0 a1 M cap1 0 rs w (by unfold maxLen; omega) (by unfold maxLen; omega) hr0).mono (fun e w'' h => ⟨h.1, h.2.symm⟩)
  rcases hr0 with h0 | ⟨b0, o0, rfl, hc0⟩
  · rw [hNN, h0] at hpos; cases hpos
  have H3 : Hid (Calls Try.prog 10 #[.slice (some ⟨b0, o0, none⟩) N cap0] w fun e w' => e = .returned (.slice (some ⟨w.heap.size, 0, none⟩) N N) ∧ w'.ownsRow w.heap.size 9 1 (.slice (some ⟨w.heap.size, 0, none⟩) N N) N (strs rs) ∧ Below w.heap.size w w') := by
    rw [hNN] at *
    exact copy10 b0 o0 cap0 rs w hN hpos (lt_of_cell (hc0 0 hpos)) hc0
  have HZ : Hid (∀ z ∈ zs, 0 ≤ z ∧ z ≤ 4294967295) := hz
  have HS : Hid (∀ s ∈ rs, s.size ≤ maxLen) := hs
  obtain ⟨hp0, hp1⟩ := hp
  have H4 : Hid (∀ w1, Below w.heap.size w w1 → Calls Try.prog 11 #[.slice a1 M cap1] w1 fun e w' => ∃ v, e = .returned v ∧ w'.ownsRow w1.heap.size 34 1 v M (words zs) ∧ Below w1.heap.size w1 w') := by
    intro w1 hb
    rw [hMM] at *
    refine copy11 a1 cap1 zs w1 hM h1nil ?_
    rcases hr1 with h | ⟨b, off, h, hc⟩
    · exact .inl h
    · by_cases h0 : zs = []
      · exact .inl h0
      · have hlt := lt_of_cell (hc 0 (List.length_pos_iff.2 h0))
        exact .inr ⟨b, off, h, Nat.lt_of_lt_of_le hlt hb.size, fun j hj => (hb.cell (p := ⟨b, off + j, none⟩) hlt).trans (hc j hj)⟩
  clear hz hs hr1 hc0 h1nil
  have HN : Hid (N = rs.length) := hNN
  have HM : Hid (M = zs.length) := hMM
  clear hNN hMM
  go_enter Try.func7, Try.ntmps7
  go_wp2_with fail
  refine H1.out.mono ?_
  rintro e w' ⟨⟨x, rfl⟩, rfl⟩
  cases x
  · go_wp2
    go_ret
    exact ⟨rfl, Below.refl _ _⟩
  go_wp2_with fail
  refine H2.out.mono ?_
  rintro e w' ⟨⟨x, rfl⟩, rfl⟩
  cases x
  case true =>
    go_wp2
    go_ret
    exact ⟨rfl, Below.refl _ _⟩
  clear H1 H2
  go_wp2_with fail
  refine H3.out.mono ?_
  rintro e w1 ⟨rfl, hown1, hb1⟩
  go_wp2_with fail
  refine (H4.out w1 hb1).mono ?_
  rintro e w2 ⟨v2, rfl, hown2, hb2⟩
  clear H3 H4
  go_wp2_with fail
  refine (start22 HN.out HM.out hN hM hpos HZ.out HS.out hown1 hb1 hown2 hb2).mono ?_
  rintro e w4 ⟨mo4, f4, Q4, rfl, hT4, hb4, hcell, hsz⟩
  clear hown1 hown2 hb1 hb2
  obtain ⟨B, hB⟩ : ∃ B, B = w2.heap.size := ⟨_, rfl⟩
  rw [← hB] at hT4 hcell hsz ⊢
  clear hB
  have hr1 : 0 ≤ p % (N : Int) := Int.emod_nonneg _ (by omega)
  have hr2 : p % (N : Int) < (N : Int) := Int.emod_lt_of_pos _ (by omega)
  have hr3 : p % (N : Int) < 4096 := by omega
  have e4 := hcell w4 (Below.refl _ _) (p % (N : Int)).toNat (by omega)
  have hmem : rs.getD (p % (N : Int)).toNat ByteArray.empty ∈ rs := by rw [getD_at (by rw [← HN.out]; omega)]; exact List.getElem_mem _
  generalize rs.getD (p % (N : Int)).toNat ByteArray.empty = s at e4 hmem
  have hss := HS.out s hmem
  have hN' : rs.length ≤ 4096 := by rw [← HN.out]; exact hN
  clear hcell
  have HT4 : Hid (TokIn w4 B B mo4 M f4 Q4 rs) := hT4
  have HE4 : Hid (Calls Try.prog 18 #[.pointer (some ⟨B, 0, none⟩), .string s] w4 fun e w' => e = .returned (ptr (f4 s)) ∧ w4 = w') := (entry18 hT4.tok hss).mono (fun _ _ h => ⟨h.1, h.2.symm⟩)
  go_wp2_with fail
  refine HE4.out.mono ?_
  rintro e w5 ⟨rfl, rfl⟩
  cases hf : f4 s with
  | none =>
    rw [show ptr none = .pointer none from rfl]
    clear hT4 hf
    go_wp2
    go_ret
    exact ⟨rfl, hb4⟩
  | some b =>
  rw [show ptr (some b) = .pointer (some ⟨b, 0, none⟩) from rfl]
  obtain ⟨_, _, c3, _, _⟩ := hT4.tok.entCells hf
  have HF : Hid (f4 s = some b) := hf
  clear hT4 hf HE4
  go_wp2_with fail
  refine (isFree19 b _ w4 c3).mono ?_
  rintro e w5 ⟨rfl, rfl⟩
  cases hq : isIn Q4 s with
  | false =>
    go_wp2
    go_ret
    exact ⟨rfl, hb4⟩
  | true =>
  have hmQ : s ∈ Q4 := isIn_true.1 hq
  clear hq c3
  go_wp2_with fail
  refine (HT4.out.order HN.out hN).mono ?_
  rintro e w5 ⟨a5, c5, rfl, ho5, hb5⟩
  have hT5 := HT4.out.below hb5
  go_wp2_with fail
  refine (unlink26 hT5.tok hmQ HF.out (Nat.le_trans hT5.len hN')).mono ?_
  rintro e w6 ⟨rfl, hT6, hF6⟩
  have hI6 : TokIn w6 B B mo4 M f4 (sans Q4 s) rs := ⟨hT6, hT5.mem⟩
  have ho6 := owns_fr hT5.tok hF6 ho5
  go_wp2_with fail
  refine (hI6.order HN.out hN).mono ?_
  rintro e w7 ⟨a7, c7, rfl, ho7, hb7⟩
  have hT7 := hI6.below hb7
  have hall7 : Below w.heap.size w w7 := below_trans ((below_trans hb4 hb5).trans (hF6.below.mono hsz)) hb7
  have ho7' := owns_below ho6 hb7
  obtain ⟨_, _, e7, hsA, _⟩ := owns_strAt ho7'
  obtain ⟨rfl, rfl⟩ : a5 = _ ∧ c5 = _ := by simpa using e7
  have hlQ : Q4.length ≤ 4096 := Nat.le_trans HT4.out.len hN'
  have hls := length_sans HT4.out.tok.nodup hmQ
  have HW : Hid (Calls Try.prog 13 #[.slice a5 Q4.length c5, .string s] w7 fun e w' => ∃ a cap, e = .returned (.slice a (sans Q4 s).length cap) ∧ w'.ownsRow w7.heap.size 9 1 (.slice a (sans Q4 s).length cap) (sans Q4 s).length (strs (sans Q4 s)) ∧ Below w7.heap.size w7 w') := by
    refine (without13 a5 c5 Q4 s w7 hlQ hsA).mono ?_
    rintro e w' ⟨v, rfl, h1, h2⟩
    obtain ⟨a, cap, rfl, _⟩ := owns_strAt h1
    exact ⟨a, cap, rfl, h1, h2⟩
  have HT7 : Hid (TokIn w7 B B mo4 M f4 (sans Q4 s) rs) := hT7
  have HO7 : Hid (w7.ownsRow w6.heap.size 9 1 (.slice a7 (sans Q4 s).length c7) (sans Q4 s).length (strs (sans Q4 s))) := ho7
  have hlen : (sans Q4 s).length ≤ 4096 := by omega
  have heq : (((sans Q4 s).length : Int) == (Q4.length : Int) - 1) = true := by rw [beq_iff_eq]; omega
  clear ho5 ho6 ho7 ho7' hb5 hb7 hF6 hT5 hT6 hI6 hT7 hb4 e7 hsA hmQ
  have hps := ptr_same
  go_wp2_with fail
  refine HW.out.mono ?_
  rintro e w8 ⟨a8, c8, rfl, ho8, hb8⟩
  have ho8' := owns_below HO7.out hb8
  obtain ⟨_, _, e8, hsA, _⟩ := owns_strAt ho8
  obtain ⟨rfl, rfl⟩ : a8 = _ ∧ c8 = _ := by simpa using e8
  obtain ⟨_, _, e8', hsB, _⟩ := owns_strAt ho8'
  obtain ⟨rfl, rfl⟩ : a7 = _ ∧ c7 = _ := by simpa using e8'
  have hall8 := below_trans hall7 hb8
  have HSm : Hid (∀ c c', Calls Try.prog 17 #[.slice a7 (sans Q4 s).length c, .slice a8 (sans Q4 s).length c'] w8 fun e w' => e = .returned (.bool true) ∧ ∃ m, w' = w8.drewN m) := fun c c' => same17' a7 c a8 c' _ _ w8 rfl hlen hsB hsA
  have HT8 : Hid (TokIn w8 B B mo4 M f4 (sans Q4 s) rs) := HT7.out.below hb8
  clear ho8 ho8' hb8 e8 e8' hsA hsB
  go_wp2_with fail
  refine (HSm.out c7 c8).mono ?_
  rintro e w9 ⟨rfl, m, rfl⟩
  have HT9 : Hid (TokIn (w8.drewN m) B B mo4 M f4 (sans Q4 s) rs) := HT8.out.below (below_drewN w8 m)
  obtain ⟨_, _, c3, c4, c5'⟩ := HT9.out.tok.entCells HF.out
  have hns : s ∉ sans Q4 s := fun h => (mem_sans.1 h).2 rfl
  rw [isIn_false.2 hns] at c3
  rw [older_not_mem hns] at c4
  rw [newer_not_mem hns] at c5'
  have HE9 : Hid (Calls Try.prog 18 #[.pointer (some ⟨B, 0, none⟩), .string s] (w8.drewN m) fun e w' => e = .returned (.pointer (some ⟨b, 0, none⟩)) ∧ w' = w8.drewN m) := by
    have := entry18 HT9.out.tok hss
    rw [HF.out] at this
    exact this
  clear hns
  go_wp2_with fail
  refine (isFree19 b false (w8.drewN m) c3).mono ?_
  rintro e w10 ⟨rfl, rfl⟩
  go_wp2_with fail
  refine (older27 b none (w8.drewN m) c4).mono ?_
  rintro e w10 ⟨rfl, rfl⟩
  go_wp2_with fail
  refine (newer28 b none (w8.drewN m) c5').mono ?_
  rintro e w10 ⟨rfl, rfl⟩
  go_wp2_with fail
  refine HE9.out.mono ?_
  rintro e w10 ⟨rfl, rfl⟩
  go_wp2
  go_ret
  exact ⟨rfl, ⟨hall8.os, hall8.tape, hall8.output, hall8.size, hall8.block⟩⟩

theorem walk7 (a0 : Option Addr) (len0 cap0 : Nat) (rs : List ByteArray) (a1 : Option Addr) (len1 cap1 : Nat) (zs : List Int) (p : Int) (w : World) (h0 : IsStrs w a0 len0 rs) (h1 : IsWords w a1 len1 cap1 zs) (hp : 0 ≤ p ∧ p ≤ 4294967295) :
    Calls Try.prog 7 #[.slice a0 len0 cap0, .slice a1 len1 cap1, .int .u32 p] w fun e w' => e = .returned (.bool true) ∧ Below w.heap.size w w' := by
  obtain ⟨hr0, rfl, hm0, hs⟩ := h0
  obtain ⟨hr1, rfl, hm1, hnil, hz⟩ := h1
  by_cases hout : 4096 < rs.length ∨ 4096 < zs.length ∨ rs.length = 0
  · refine (early7 a0 cap0 rs a1 zs.length cap1 p w hr0 hm0 hm1 hout).mono ?_
    rintro e w' ⟨rfl, rfl⟩
    exact ⟨rfl, Below.refl _ _⟩
  · exact main7 a0 _ _ cap0 rs a1 zs cap1 p w rfl rfl hr0 hr1 hnil hs hz hp (by omega) (by omega) (by omega)
end Go.Proofs.Qxb6001032a
