/- FnTokensFreeListFollowsQueueModel: the walk. -/
import Derived.Test.Qxb6001032aModel
namespace Go.Proofs.Qxb6001032a
open Go.RowKit Go.Maps
set_option linter.unusedVariables false

theorem below_drewN3 (w : World) (m : Nat) : Below w.heap.size w (w.drewN m) := ⟨rfl, rfl, rfl, Nat.le_refl _, fun _ _ => rfl⟩

/-- The early ways out. -/
theorem early3 (a0 : Option Addr) (cap0 : Nat) (rs : List ByteArray) (a1 : Option Addr) (n1 cap1 : Nat) (w : World) (hr0 : StrAt w a0 rs) (hn0 : rs.length ≤ maxLen) (hn1 : n1 ≤ maxLen)
    (hout : 4096 < rs.length ∨ 4096 < n1 ∨ rs.length = 0) :
    Calls Try.prog 3 #[.slice a0 rs.length cap0, .slice a1 n1 cap1] w fun e w' => e = .returned (.bool true) ∧ w' = w := by
  have H1 : Hid (∀ w', w' = w → Calls Try.prog 8 #[.slice a0 rs.length cap0, .slice a1 n1 cap1] w' fun e w'' => IsBool e ∧ w'' = w') := fun w' h => h ▸ bytes8 a0 cap0 a1 n1 cap1 rs w hn0 hn1 hr0
  have H2 : Hid (∀ w', w' = w → Calls Try.prog 9 #[.slice a0 rs.length cap0, .slice a1 n1 cap1, .int .i64 0] w' fun e w'' => IsBool e ∧ w'' = w') := fun w' h => h ▸ over9 a0 cap0 a1 n1 cap1 0 rs w hn0 hn1 hr0
  clear hr0
  generalize rs.length = n0 at *
  unfold maxLen at hn0 hn1
  go_enter Try.func3, Try.ntmps3
  go_wp2_with fail
  refine (H1.out _ rfl).mono ?_
  rintro e w' ⟨⟨x, rfl⟩, rfl⟩
  cases x
  · go_wp2
    go_ret
    exact ⟨rfl, rfl⟩
  · rcases hout with h | h | h
    · go_wp2
      go_ret
      exact ⟨rfl, rfl⟩
    · go_wp2
      all_goals go_ret
      all_goals exact ⟨rfl, rfl⟩
    · subst h
      go_wp2_with (go_at_call 9; refine (H2.out _ rfl).mono ?_; rintro e w' ⟨⟨x, rfl⟩, rfl⟩; cases x)
      all_goals go_wp2
      all_goals go_ret
      all_goals exact ⟨rfl, rfl⟩


set_option maxHeartbeats 1000000 in
theorem main3 (a0 : Option Addr) (N M cap0 : Nat) (rs : List ByteArray) (a1 : Option Addr) (zs : List Int) (cap1 : Nat) (w : World) (hNN : N = rs.length) (hMM : M = zs.length) (hr0 : StrAt w a0 rs) (hr1 : WordAt w a1 zs) (h1nil : a1 = none → zs.length = 0 ∧ cap1 = 0)
    (hs : ∀ s ∈ rs, s.size ≤ maxLen) (hz : ∀ z ∈ zs, 0 ≤ z ∧ z ≤ 4294967295) (hN : N ≤ 4096) (hM : M ≤ 4096) (hpos : 0 < N) :
    Calls Try.prog 3 #[.slice a0 N cap0, .slice a1 M cap1] w fun e w' => e = .returned (.bool true) ∧ Below w.heap.size w w' := by
  have H1 : Hid (Calls Try.prog 8 #[.slice a0 N cap0, .slice a1 M cap1] w fun e w' => IsBool e ∧ w = w') := by
    rw [hNN]
    exact (bytes8 a0 cap0 a1 M cap1 rs w (by unfold maxLen; omega) (by unfold maxLen; omega) hr0).mono (fun e w'' h => ⟨h.1, h.2.symm⟩)
  have H2 : Hid (Calls Try.prog 9 #[.slice a0 N cap0, .slice a1 M cap1, .int .i64 0] w fun e w' => IsBool e ∧ w = w') := by
    rw [hNN]
    exact (over9 a0 cap0 a1 M cap1 0 rs w (by unfold maxLen; omega) (by unfold maxLen; omega) hr0).mono (fun e w'' h => ⟨h.1, h.2.symm⟩)
  rcases hr0 with h0 | ⟨b0, o0, rfl, hc0⟩
  · rw [hNN, h0] at hpos; cases hpos
  have H3 : Hid (Calls Try.prog 10 #[.slice (some ⟨b0, o0, none⟩) N cap0] w fun e w' => e = .returned (.slice (some ⟨w.heap.size, 0, none⟩) N N) ∧ w'.ownsRow w.heap.size 9 1 (.slice (some ⟨w.heap.size, 0, none⟩) N N) N (strs rs) ∧ Below w.heap.size w w') := by
    rw [hNN] at *
    exact copy10 b0 o0 cap0 rs w hN hpos (lt_of_cell (hc0 0 hpos)) hc0
  have HZ : Hid (∀ z ∈ zs, 0 ≤ z ∧ z ≤ 4294967295) := hz
  have HS : Hid (∀ s ∈ rs, s.size ≤ maxLen) := hs
  have H4 : Hid (∀ w1, Below w.heap.size w w1 → Calls Try.prog 11 #[.slice a1 M cap1] w1 fun e w' => ∃ v, e = .returned v ∧ w'.ownsRow w1.heap.size 34 1 v M (words zs) ∧ Below w1.heap.size w1 w') := by
    intro w1 hb
    rw [hMM] at *
    refine copy11 a1 cap1 zs w1 hM h1nil ?_
    rcases hr1 with h | ⟨b, off, h, hc⟩
    · exact .inl h
    · by_cases h0 : zs = []
      · exact .inl h0
      · have hlt := lt_of_cell (hc 0 (List.length_pos_iff.2 h0))
        exact .inr ⟨b, off, h, Nat.lt_of_lt_of_le hlt hb.size, fun j hj => (hb.cell (p := ⟨b, off + j, none⟩) hlt).trans (hc j hj)⟩
  clear hz hs hr1 hc0 h1nil
  have HN : Hid (N = rs.length) := hNN
  have HM : Hid (M = zs.length) := hMM
  clear hNN hMM
  have hmm := @run_makeMap Try.prog
  obtain ⟨i0, hi, hz0, hz1, hz2⟩ := info_parts info9
  have Hi : Hid (Try.prog.info? 9 = some i0 ∧ i0.zero = some (Value.string ByteArray.empty) ∧ i0.size = 1 ∧ i0.bytes = 16) := ⟨hi, hz0, hz1, hz2⟩
  clear hi hz0 hz1 hz2
  go_enter Try.func3, Try.ntmps3
  go_wp2_with fail
  refine H1.out.mono ?_
  rintro e w' ⟨⟨x, rfl⟩, rfl⟩
  cases x
  · go_wp2
    go_ret
    exact ⟨rfl, Below.refl _ _⟩
  go_wp2_with fail
  refine H2.out.mono ?_
  rintro e w' ⟨⟨x, rfl⟩, rfl⟩
  cases x
  case true =>
    go_wp2
    go_ret
    exact ⟨rfl, Below.refl _ _⟩
  clear H1 H2
  go_wp2_with fail
  refine H3.out.mono ?_
  rintro e w1 ⟨rfl, hown1, hb1⟩
  go_wp2_with fail
  refine (H4.out w1 hb1).mono ?_
  rintro e w2 ⟨v2, rfl, hown2, hb2⟩
  clear H3 H4
  obtain ⟨a2, cap2, hv2, hw2⟩ : ∃ a cap, v2 = .slice a M cap ∧ WordAt w2 a zs := by
    have := hown2
    rw [HM.out] at this
    obtain ⟨a, cap, h1, h2⟩ := owns_wordAt this
    exact ⟨a, cap, by rw [h1, HM.out], h2⟩
  subst hv2
  go_wp2_with fail
  have hM0 := Model.start w2 rs
  have hg1 := (hown1.lt w.heap.size rfl).2
  have hs2 := hb2.size
  have hs1 := hb1.size
  have hcell : ∀ j, j < N → w2.cell? ⟨w.heap.size, j, none⟩ = some (.string (rs.getD j ByteArray.empty)) := by
    intro j hj
    refine (hb2.cell (p := ⟨w.heap.size, j, none⟩) hg1).trans ?_
    rw [hown1.cellAt j (by omega)]
    have hj' : j < rs.length := by rw [← HN.out]; exact hj
    simp [strs, List.getElem?_map, List.getD, List.getElem?_eq_getElem hj']
  have hgB : w.heap.size < w2.heap.size := by omega
  have hg2B : ∀ b off, a2 = some ⟨b, off, none⟩ → b < w2.heap.size := fun b off h => (hown2.lt b (by rw [h]; rfl)).2
  have hall2 := below_trans hb1 hb2
  have hN' : rs.length ≤ 4096 := by rw [← HN.out]; exact hN
  clear hown1 hown2 hb1 hb2 hg1 hs1 hs2
  go_loopw [7, 9] (fun v i wr => ∃ k : Nat, ∃ mo f Q D a c, k ≤ M ∧ i = .int .i64 k ∧ v = .slice a Q.length c ∧ Model wr w2.heap.size w2.heap.size (w2.heap.size + 1) mo k f Q rs D (.slice a Q.length c) ∧ Below w2.heap.size w2 wr) (fun _ i _ => M - (intOf i).toNat)
  case atStart => exact ⟨0, none, _, [], .map [], none, 0, Nat.zero_le _, rfl, rfl, hM0, ((Below.refl _ _).alloc (Nat.le_refl _) _).alloc (by simp) _⟩
  case round =>
    obtain ⟨k, mo, f, Q, D, a, c, hk, rfl, rfl, hMd, hb⟩ := hrel
    clear hM0
    have hlq : Q.length ≤ 4096 := Nat.le_trans hMd.tok.len hN'
    have HMd : Hid (Model wr w2.heap.size w2.heap.size (w2.heap.size + 1) mo k f Q rs D (.slice a Q.length c)) := hMd
    by_cases hlt : k < M
    · rcases hw2 with h0 | ⟨g2, o2, rfl, hc2⟩
      · exact absurd hlt (by rw [HM.out, h0]; simp)
      have hg2 := hg2B g2 o2 rfl
      have e1 := (hb.cell (p := ⟨g2, o2 + k, none⟩) hg2).trans (hc2 k (by rw [← HM.out]; exact hlt))
      have e2 : 0 ≤ zs.getD k 0 ∧ zs.getD k 0 ≤ 4294967295 := HZ.out _ (by rw [getW_at (HM.out ▸ hlt)]; exact List.getElem_mem _)
      generalize zs.getD k 0 = z at e1 e2
      obtain ⟨e2, e3⟩ := e2
      have hr1 : 0 ≤ z / 2 % (N : Int) := Int.emod_nonneg _ (by omega)
      have hr2 : z / 2 % (N : Int) < (N : Int) := Int.emod_lt_of_pos _ (by omega)
      have hr3 : z / 2 % (N : Int) < 4096 := by omega
      have e4 := (hb.cell (p := ⟨w.heap.size, (z / 2 % (N : Int)).toNat, none⟩) hgB).trans (hcell (z / 2 % (N : Int)).toNat (by omega))
      have hmem : rs.getD (z / 2 % (N : Int)).toNat ByteArray.empty ∈ rs := by rw [getD_at (by rw [← HN.out]; omega)]; exact List.getElem_mem _
      generalize rs.getD (z / 2 % (N : Int)).toNat ByteArray.empty = s at e4 hmem
      have hsz := HS.out s hmem
      clear hcell hc2 hMd hg2B
      go_wp2_with fail
      · refine (hold12 HMd.out.tok.tok hsz hlq (by omega)).mono ?_
        rintro e w5 ⟨b, mo5, f5, rfl, hT5, hH5, hF5⟩
        have hown5 := (HMd.out.known.fr hF5 HMd.out.apart).1
        go_wp2_with (at_mapUpdate; refine wpList_mapUpdate_own _ rfl _ _ _ 33 rfl 9 4 law Try.underlying33 _ (w2.heap.size + 1) k _ rfl hown5 (by unfold maxLen; omega) _ _ _ rfl rfl (key_ok hsz) _ [] (boolElem_mk true) ?_)
        intro w6 hown6 hg6
        obtain ⟨hI6, hr6, hk6, ha6, hb6⟩ := HMd.out.held hmem hT5 hH5 hF5 hown6 hg6
        obtain ⟨_, _, e6, hsA, _⟩ := owns_strAt hr6
        obtain ⟨rfl, rfl⟩ : a = _ ∧ c = _ := by simpa using e6
        have hmk := HMd.out.hmk
        clear hown5 hown6 hg6 hT5 hH5 hF5 e6
        go_wp2_with fail
        refine (without13 a c Q s w6 hlq hsA).mono ?_
        rintro e w7 ⟨v7, rfl, hr7, hb7⟩
        obtain ⟨a7, c7, hv7, _⟩ := owns_strAt hr7
        subst hv7
        have hM7 := Model.without hI6 hk6 ha6 hmk hb7 hr7
        have hb8 : Below w2.heap.size w2 w7 := (hb.trans hb6).trans (hb7.mono hI6.hB)
        clear hr7 hb7 hI6 hr6 hk6 ha6 hb6
        go_wp2
        go_roundw
        case rel => exact ⟨k + 1, _, _, _, _, _, _, by omega, by go_num, rfl, hM7, hb8⟩
        case measure => simp [intOf]; omega
      · refine (free14 HMd.out.tok.tok hsz hlq).mono ?_
        rintro e w5 ⟨rfl, hT5, hF5⟩
        obtain ⟨hI5, hr5, hk5⟩ := HMd.out.freed hT5 hF5
        have hlk := hk5.look hsz
        have ha := HMd.out.apart
        have hmk := HMd.out.hmk
        have hb5 : Below w2.heap.size w2 w5 := hb.trans hF5.below
        have HI : Hid (TokIn w5 w2.heap.size w2.heap.size mo k f (freeQ f Q s) rs) := hI5
        have HK : Hid (KnownAt w5 (w2.heap.size + 1) k D f) := hk5
        have HA : Hid (Apart w2.heap.size mo f (w2.heap.size + 1)) := ha
        obtain ⟨_, _, e6, hsA, _⟩ := owns_strAt hr5
        obtain ⟨rfl, rfl⟩ : a = _ ∧ c = _ := by simpa using e6
        have HC : Hid (Calls Try.prog 15 #[.slice a Q.length c, .string s] w5 fun e w' => e = .returned (.bool (isIn Q s)) ∧ w5 = w') := (contains15 a c Q s w5 (by unfold maxLen; omega) hsA).mono (fun _ _ h => ⟨h.1, h.2.symm⟩)
        clear hT5 hF5 hI5 hk5 ha e6 hsA HMd
        cases hfs : (f s).isSome with
        | false =>
          have hfq : freeQ f Q s = Q := by simp [freeQ, hfs]
          have HM5 : Hid (Model w5 w2.heap.size w2.heap.size (w2.heap.size + 1) mo (k + 1) f Q rs D (.slice a Q.length c)) := Model.still (hfq ▸ HI.out) hr5 HK.out HA.out hmk
          rw [hfs] at hlk
          clear hfs hfq hr5
          go_wp2
          go_roundw
          case rel => exact ⟨k + 1, _, _, _, _, _, _, by omega, by go_num, rfl, HM5.out, hb5⟩
          case measure => simp [intOf]; omega
        | true =>
          rw [hfs] at hlk
          cases hq : isIn Q s with
          | true =>
            have hfq : freeQ f Q s = Q := by simp [freeQ, hq]
            have HM5 : Hid (Model w5 w2.heap.size w2.heap.size (w2.heap.size + 1) mo (k + 1) f Q rs D (.slice a Q.length c)) := Model.still (hfq ▸ HI.out) hr5 HK.out HA.out hmk
            rw [hq] at HC
            clear hfs hfq hr5 hq
            go_wp2_with fail
            refine HC.out.mono ?_
            rintro e w6 ⟨rfl, rfl⟩
            go_wp2
            go_roundw
            case rel => exact ⟨k + 1, _, _, _, _, _, _, by omega, by go_num, rfl, HM5.out, hb5⟩
            case measure => simp [intOf]; omega
          | false =>
            have hfq : freeQ f Q s = Q ++ [s] := by simp [freeQ, hq, hfs]
            rw [hfq] at HI
            rw [hq] at HC
            clear hfs hfq hq
            go_wp2_with fail
            refine HC.out.mono ?_
            rintro e w6 ⟨rfl, rfl⟩
            have hB5 := HI.out.hB
            go_wp2_with (at_builtin; refine wpList_append_own _ rfl _ _ 22 rfl w2.heap.size 9 i0 (.string ByteArray.empty) 1 16 Try.underlying22 Hi.out.1 Hi.out.2.1 Hi.out.2.2.1 Hi.out.2.2.2 rfl (by decide) _ _ _ rfl (hr5.alloc _) ⟨w5.heap.size, 0, none⟩ 1 1 [.string s] rfl rfl (cell_one_new _ _ _) ?c2 ?c3 ?c4 ?c5 ?_)
            case c2 => intro u hu; simp at hu; subst hu; rfl
            case c3 => unfold maxLen; omega
            case c4 => omega
            case c5 => simp; omega
            intro v7 w7 hr7 hg7 _
            obtain ⟨hM7, hb7⟩ := Model.appended HI.out hr5 HK.out HA.out hmk hr7 hg7
            obtain ⟨a7, c7, hv7, _⟩ := owns_strAt hM7.row
            subst hv7
            have hb8 := hb5.trans hb7
            clear hr7 hg7 hr5 hlk hb7
            go_wp2
            go_roundw
            case rel => exact ⟨k + 1, _, _, _, _, _, _, by omega, by go_num, rfl, hM7, hb8⟩
            case measure => simp [intOf]; omega
    · have hkM : k = M := by omega
      subst hkM
      clear hlt hk
      have hw : Below w.heap.size w wr := below_trans hall2 hb
      go_wp2_with fail
      refine (hMd.tok.order HN.out hN).mono ?_
      rintro e w5 ⟨a5, c5, rfl, hr5, hb5⟩
      have hI5 := hMd.tok.below hb5
      have hk5 := hMd.known.kept (hb5.block _ hMd.known.lt)
      have hr5' := owns_below hMd.row hb5
      obtain ⟨_, _, e6, hsA, _⟩ := owns_strAt hr5'
      obtain ⟨rfl, rfl⟩ : a = _ ∧ c = _ := by simpa using e6
      obtain ⟨_, _, e7, hsB, _⟩ := owns_strAt hr5
      obtain ⟨rfl, rfl⟩ : a5 = _ ∧ c5 = _ := by simpa using e7
      have hw5 := below_trans hw hb5
      have HSm : Hid (∀ c c', Calls Try.prog 17 #[.slice a5 Q.length c, .slice a Q.length c'] w5 fun e w' => e = .returned (.bool true) ∧ ∃ m, w' = w5.drewN m) := fun c c' => same17' a5 c a c' _ _ w5 rfl hlq hsB hsA
      have hcell5 : ∀ j, j < N → w5.cell? ⟨w.heap.size, j, none⟩ = some (.string (rs.getD j ByteArray.empty)) := fun j hj => ((hb.trans (hb5.mono hMd.tok.hB)).cell (p := ⟨w.heap.size, j, none⟩) hgB).trans (hcell j hj)
      have HI : Hid (TokIn w5 w2.heap.size w2.heap.size mo k f Q rs) := hI5
      have HK : Hid (KnownAt w5 (w2.heap.size + 1) k D f) := hk5
      have HSA : Hid (StrAt w5 a Q) := hsA
      clear hMd HMd hr5 hr5' e6 e7 hsA hsB hb5 hI5 hk5 hcell hw
      go_wp2_with fail
      refine (HSm.out c5 c).mono ?_
      rintro e w6 ⟨rfl, m, rfl⟩
      go_wp2_with fail
      have hcellW : ∀ j, j < N → (w5.drewN m).cell? ⟨w.heap.size, j, none⟩ = some (.string (rs.getD j ByteArray.empty)) := hcell5
      have HIW : Hid (TokIn (w5.drewN m) w2.heap.size w2.heap.size mo k f Q rs) := HI.out.below (below_drewN3 w5 m)
      have HKW : Hid (KnownAt (w5.drewN m) (w2.heap.size + 1) k D f) := HK.out.kept rfl
      have HSW : Hid (StrAt (w5.drewN m) a Q) := HSA.out
      have hwW : Below w.heap.size w (w5.drewN m) := ⟨hw5.os, hw5.tape, hw5.output, hw5.size, hw5.block⟩
      clear hcell5 HI HK HSA hw5 HSm
      generalize w5.drewN m = W at *
      go_loopw [14] (fun i wr' => ∃ j : Nat, j ≤ N ∧ i = .int .i64 j ∧ wr' = W) (fun i _ => N - (intOf i).toNat)
      case atStart => exact ⟨0, Nat.zero_le _, rfl, rfl⟩
      case round =>
        obtain ⟨j, hj, rfl, hWW⟩ := hrel
        subst hWW
        by_cases hlt : j < N
        · have e1 := hcellW j hlt
          have hmem : rs.getD j ByteArray.empty ∈ rs := by rw [getD_at (by rw [← HN.out]; omega)]; exact List.getElem_mem _
          generalize rs.getD j ByteArray.empty = s at e1 hmem
          have hsz := HS.out s hmem
          have hlk := HKW.out.look hsz
          clear hcellW
          have HE := entry18 HIW.out.tok hsz
          cases hf : f s with
          | none =>
            rw [hf] at HE hlk
            have HE' : Hid (Calls Try.prog 18 #[.pointer (some ⟨w2.heap.size, 0, none⟩), .string s] wr fun e w' => e = .returned (.pointer none) ∧ wr = w') := HE.mono (fun _ _ h => ⟨h.1, h.2.symm⟩)
            clear HE hf
            go_wp2_with fail
            refine HE'.out.mono ?_
            rintro e w6 ⟨rfl, rfl⟩
            go_wp2
            go_roundw
            case rel => exact ⟨j + 1, by omega, by go_num, by trivial⟩
            case measure => simp [intOf]; omega
          | some b =>
            rw [hf] at HE hlk
            have HE' : Hid (Calls Try.prog 18 #[.pointer (some ⟨w2.heap.size, 0, none⟩), .string s] wr fun e w' => e = .returned (.pointer (some ⟨b, 0, none⟩)) ∧ wr = w') := HE.mono (fun _ _ h => ⟨h.1, h.2.symm⟩)
            obtain ⟨_, c1, c3, _, _⟩ := HIW.out.tok.entCells hf
            have HC : Hid (Calls Try.prog 15 #[.slice a Q.length c, .string s] wr fun e w' => e = .returned (.bool (isIn Q s)) ∧ wr = w') := (contains15 a c Q s wr (by unfold maxLen; omega) HSW.out).mono (fun _ _ h => ⟨h.1, h.2.symm⟩)
            generalize isIn Q s = x at c3 HC
            clear HE hf
            go_wp2_with fail
            refine HE'.out.mono ?_
            rintro e w6 ⟨rfl, rfl⟩
            go_wp2_with fail
            refine (isFree19 b x wr c3).mono ?_
            rintro e w6 ⟨rfl, rfl⟩
            go_wp2_with fail
            refine HC.out.mono ?_
            rintro e w6 ⟨rfl, rfl⟩
            go_wp2_with fail
            refine (last20 b 0 wr c1).mono ?_
            rintro e w6 ⟨rfl, rfl⟩
            go_wp2
            go_roundw
            case rel => exact ⟨j + 1, by omega, by go_num, by trivial⟩
            case measure => simp [intOf]; omega
        · clear hcellW
          go_wp2
          go_ret
          exact ⟨rfl, hwW⟩

theorem walk3 (a0 : Option Addr) (len0 cap0 : Nat) (rs : List ByteArray) (a1 : Option Addr) (len1 cap1 : Nat) (zs : List Int) (w : World) (h0 : IsStrs w a0 len0 rs) (h1 : IsWords w a1 len1 cap1 zs) :
    Calls Try.prog 3 #[.slice a0 len0 cap0, .slice a1 len1 cap1] w fun e w' => e = .returned (.bool true) ∧ Below w.heap.size w w' := by
  obtain ⟨hr0, rfl, hm0, hs⟩ := h0
  obtain ⟨hr1, rfl, hm1, hnil, hz⟩ := h1
  by_cases hout : 4096 < rs.length ∨ 4096 < zs.length ∨ rs.length = 0
  · refine (early3 a0 cap0 rs a1 zs.length cap1 w hr0 hm0 hm1 hout).mono ?_
    rintro e w' ⟨rfl, rfl⟩
    exact ⟨rfl, Below.refl _ _⟩
  · exact main3 a0 _ _ cap0 rs a1 zs cap1 w rfl rfl hr0 hr1 hnil hs hz (by omega) (by omega) (by omega)
end Go.Proofs.Qxb6001032a
