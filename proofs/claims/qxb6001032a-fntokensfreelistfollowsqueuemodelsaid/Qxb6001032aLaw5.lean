/- FnTokensHoldIsIdempotent: the walk. -/
import Derived.Test.Qxb6001032aRun
import Derived.LaidEqlPtr
namespace Go.Proofs.Qxb6001032a
open Go.RowKit Go.Maps
set_option linter.unusedVariables false

theorem owns_fr {w w' : World} {B tb n : Nat} {mo : Option Nat} {f : ByteArray → Option Nat} {Q : List ByteArray} (hT : Tok w B tb mo n f Q) (hF : Fr B tb mo f w w') {base k : Nat} {v : Value} {xs : List Value} (h : w.ownsRow base 9 1 v k xs) : w'.ownsRow base 9 1 v k xs := by
  obtain ⟨h1, h2⟩ := h
  refine ⟨h1, ?_⟩
  rcases h2 with h2 | ⟨g, cap, cur, hv, hg, hh, r⟩
  · exact .inl h2
  · exact .inr ⟨g, cap, cur, hv, hg, hF.block g _ hh (hT.apart_row hh), r⟩

theorem tok_init (w : World) (rs : List ByteArray) : TokIn (w.alloc (.cells #[.map none, .pointer none, .pointer none, .int .i64 0, .int .u64 0] 32)) w.heap.size w.heap.size none 0 (fun _ => none) [] rs :=
  ⟨⟨Nat.le_refl _, (MapKept.heap_alloc w _).1, .inl ⟨rfl, fun _ => rfl⟩, fun _ _ h => (by cases h), List.nodup_nil, fun _ h => (by cases h)⟩, fun _ _ h => (by cases h)⟩

theorem info56 : (Try.prog.info? 56).isSome = true := by kernel_rfl
theorem ptr_same (a : Addr) (w : World) : (binOp .eql 29 (.pointer (some a)) (.pointer (some a))).run Try.prog w = .ok (.bool true) w := by
  obtain ⟨j, hj⟩ := Option.isSome_iff_exists.1 info56
  exact run_eql_ptr_same w a Try.underlying29 hj

/-- The early ways out. -/
theorem early5 (a0 : Option Addr) (cap0 : Nat) (rs : List ByteArray) (a1 : Option Addr) (n1 cap1 : Nat) (p : Int) (w : World) (hr0 : StrAt w a0 rs) (hn0 : rs.length ≤ maxLen) (hn1 : n1 ≤ maxLen)
    (hout : 4096 < rs.length ∨ 4096 < n1 ∨ rs.length = 0) :
    Calls Try.prog 5 #[.slice a0 rs.length cap0, .slice a1 n1 cap1, .int .u32 p] w fun e w' => e = .returned (.bool true) ∧ w' = w := by
  have H1 : Hid (∀ w', w' = w → Calls Try.prog 23 #[.slice a0 rs.length cap0, .slice a1 n1 cap1, .int .u32 p] w' fun e w'' => IsBool e ∧ w'' = w') := fun w' h => h ▸ bytes23 a0 cap0 a1 n1 cap1 p rs w hn0 hn1 hr0
  have H2 : Hid (∀ w', w' = w → Calls Try.prog 9 #[.slice a0 rs.length cap0, .slice a1 n1 cap1, .int .i64 0] w' fun e w'' => IsBool e ∧ w'' = w') := fun w' h => h ▸ over9 a0 cap0 a1 n1 cap1 0 rs w hn0 hn1 hr0
  clear hr0
  generalize rs.length = n0 at *
  unfold maxLen at hn0 hn1
  go_enter Try.func5, Try.ntmps5
  go_wp2_with fail
  refine (H1.out _ rfl).mono ?_
  rintro e w' ⟨⟨x, rfl⟩, rfl⟩
  cases x
  · go_wp2
    go_ret
    exact ⟨rfl, rfl⟩
  · rcases hout with h | h | h
    · go_wp2
      go_ret
      exact ⟨rfl, rfl⟩
    · go_wp2
      all_goals go_ret
      all_goals exact ⟨rfl, rfl⟩
    · subst h
      go_wp2_with (go_at_call 9; refine (H2.out _ rfl).mono ?_; rintro e w' ⟨⟨x, rfl⟩, rfl⟩; cases x)
      all_goals go_wp2
      all_goals go_ret
      all_goals exact ⟨rfl, rfl⟩


/-- The script is played on a fresh Tokens. -/
theorem start22 {w w1 w2 : World} {N M : Nat} {rs : List ByteArray} {zs : List Int} {v2 : Value} (hN : N = rs.length) (hM : M = zs.length) (hN' : N ≤ 4096) (hM' : M ≤ 4096) (hpos : 0 < N)
    (hz : ∀ z ∈ zs, 0 ≤ z ∧ z ≤ 4294967295) (hs : ∀ s ∈ rs, s.size ≤ maxLen)
    (hown1 : w1.ownsRow w.heap.size 9 1 (.slice (some ⟨w.heap.size, 0, none⟩) N N) N (strs rs)) (hb1 : Below w.heap.size w w1) (hown2 : w2.ownsRow w1.heap.size 34 1 v2 M (words zs)) (hb2 : Below w1.heap.size w1 w2) :
    Calls Try.prog 22 #[.pointer (some ⟨w2.heap.size, 0, none⟩), .slice (some ⟨w.heap.size, 0, none⟩) N N, v2] (w2.alloc (.cells #[.map none, .pointer none, .pointer none, .int .i64 0, .int .u64 0] 32)) fun e w' =>
      ∃ mo f Q, e = .returned (.tuple #[]) ∧ TokIn w' w2.heap.size w2.heap.size mo M f Q rs ∧ Below w.heap.size w w' ∧ (∀ w3, Below w2.heap.size w' w3 → ∀ j, j < N → w3.cell? ⟨w.heap.size, j, none⟩ = some (.string (rs.getD j ByteArray.empty))) ∧ w.heap.size ≤ w2.heap.size := by
  subst hN hM
  have hg1 := (hown1.lt w.heap.size rfl).2
  have hs2 := hb2.size
  have hs1 := hb1.size
  have hcell : ∀ j, j < rs.length → w2.cell? ⟨w.heap.size, j, none⟩ = some (.string (rs.getD j ByteArray.empty)) := by
    intro j hj
    refine (hb2.cell (p := ⟨w.heap.size, j, none⟩) hg1).trans ?_
    rw [hown1.cellAt j (by omega)]
    simp [strs, List.getElem?_map, List.getD, List.getElem?_eq_getElem hj]
  have hbA : Below w2.heap.size w2 (w2.alloc (.cells #[.map none, .pointer none, .pointer none, .int .i64 0, .int .u64 0] 32)) := (Below.refl _ _).alloc (Nat.le_refl _) _
  obtain ⟨a2, cap2, rfl, hw2⟩ := owns_wordAt hown2
  refine (run22 w2.heap.size w2.heap.size 0 w.heap.size none (fun _ => none) [] rs zs a2 cap2 _ (tok_init w2 rs) hN' hpos hM' (by omega) hz hs (by omega) (fun j hj => (hbA.cell (p := ⟨w.heap.size, j, none⟩) (by show w.heap.size < _; omega)).trans (hcell j hj)) ?_ ?_).mono ?_
  · rcases hw2 with h | ⟨b, off, h, hc⟩
    · exact .inl h
    · exact .inr ⟨b, off, h, fun j hj => (hbA.cell (p := ⟨b, off + j, none⟩) (lt_of_cell (hc j hj))).trans (hc j hj)⟩
  · rintro b off rfl
    exact (hown2.lt b rfl).2
  · rintro e w' ⟨mo', f', Q', rfl, hT, hb⟩
    have hb3 : Below w2.heap.size w2 w' := hbA.trans hb
    rw [Nat.zero_add] at hT
    refine ⟨mo', f', Q', rfl, hT, below_trans (below_trans hb1 hb2) hb3, fun w3 h3 j hj => ?_, by omega⟩
    exact ((hb3.trans h3).cell (p := ⟨w.heap.size, j, none⟩) (by show w.heap.size < _; omega)).trans (hcell j hj)

theorem sans_sans {Q : List ByteArray} {s : ByteArray} : sans (sans Q s) s = sans Q s := sans_not_mem (fun h => (mem_sans.1 h).2 rfl)

/-- hold, from a Tokens all of whose names are known to be among rs. -/
theorem TokIn.hold {w : World} {B tb n : Nat} {mo : Option Nat} {f : ByteArray → Option Nat} {Q rs : List ByteArray} {s : ByteArray} (h : TokIn w B tb mo n f Q rs) (hs : s ∈ rs) (hsz : s.size ≤ maxLen) (hN : rs.length ≤ 4096) (hn : n < 100000) :
    Calls Try.prog 12 #[.pointer (some ⟨tb, 0, none⟩), .string s] w fun e w' => ∃ b mo' f', e = .returned (.pointer (some ⟨b, 0, none⟩)) ∧ TokIn w' B tb mo' (n + 1) f' (sans Q s) rs ∧ Held w f f' mo mo' s b ∧ Fr B tb mo f w w' := by
  refine (hold12 h.tok hsz (Nat.le_trans h.len hN) hn).mono ?_
  rintro e w' ⟨b, mo', f', rfl, hT, hH, hF⟩
  exact ⟨b, mo', f', rfl, h.held hs hT hH, hH, hF⟩

theorem TokIn.order {w : World} {B tb n N : Nat} {mo : Option Nat} {f : ByteArray → Option Nat} {Q rs : List ByteArray} (h : TokIn w B tb mo n f Q rs) (hNN : N = rs.length) (hN : N ≤ 4096) :
    Calls Try.prog 16 #[.pointer (some ⟨tb, 0, none⟩), .int .i64 ((N : Int) + 1)] w fun e w' => ∃ a cap, e = .returned (.tuple #[.slice a Q.length cap, .bool true]) ∧ w'.ownsRow w.heap.size 9 1 (.slice a Q.length cap) Q.length (strs Q) ∧ Below w.heap.size w w' := by
  have := h.len
  refine (order16 h.tok ((N : Int) + 1) (by omega) (by omega)).mono ?_
  rintro e w' ⟨v, rfl, hown, hb⟩
  obtain ⟨a, cap, rfl, _⟩ := owns_strAt hown
  exact ⟨a, cap, rfl, hown, hb⟩

theorem TokIn.below {w w' : World} {B tb n : Nat} {mo : Option Nat} {f : ByteArray → Option Nat} {Q rs : List ByteArray} (h : TokIn w B tb mo n f Q rs) (hb : Below w.heap.size w w') : TokIn w' B tb mo n f Q rs := ⟨h.tok.below hb, h.mem⟩

theorem TokIn.hB {w : World} {B tb n : Nat} {mo : Option Nat} {f : ByteArray → Option Nat} {Q rs : List ByteArray} (h : TokIn w B tb mo n f Q rs) : B ≤ w.heap.size := by
  have h1 := h.tok.hB
  have h2 := lt_of_block h.tok.cells
  omega

theorem same17' (a : Option Addr) (cap : Nat) (a' : Option Addr) (cap' : Nat) (n : Nat) (ss : List ByteArray) (w : World) (h : n = ss.length) (hn : n ≤ 4096) (hr : StrAt w a ss) (hr' : StrAt w a' ss) :
    Calls Try.prog 17 #[.slice a n cap, .slice a' n cap'] w fun e w' => e = .returned (.bool true) ∧ ∃ m, w' = w.drewN m := by
  subst h
  exact same17 a cap a' cap' ss w (by unfold maxLen; omega) hr hr'

set_option maxHeartbeats 1000000 in
theorem main5 (a0 : Option Addr) (N M cap0 : Nat) (rs : List ByteArray) (a1 : Option Addr) (zs : List Int) (cap1 : Nat) (p : Int) (w : World) (hNN : N = rs.length) (hMM : M = zs.length) (hr0 : StrAt w a0 rs) (hr1 : WordAt w a1 zs) (h1nil : a1 = none → zs.length = 0 ∧ cap1 = 0)
    (hs : ∀ s ∈ rs, s.size ≤ maxLen) (hz : ∀ z ∈ zs, 0 ≤ z ∧ z ≤ 4294967295) (hp : 0 ≤ p ∧ p ≤ 4294967295) (hN : N ≤ 4096) (hM : M ≤ 4096) (hpos : 0 < N) :
    Calls Try.prog 5 #[.slice a0 N cap0, .slice a1 M cap1, .int .u32 p] w fun e w' => e = .returned (.bool true) ∧ Below w.heap.size w w' := by
  have H1 : Hid (Calls Try.prog 23 #[.slice a0 N cap0, .slice a1 M cap1, .int .u32 p] w fun e w' => IsBool e ∧ w = w') := by
    rw [hNN]
    exact (bytes23 a0 cap0 a1 M cap1 p rs w (by unfold maxLen; omega) (by unfold maxLen; omega) hr0).mono (fun e w'' h => ⟨h.1, h.2.symm⟩)
  have H2 : Hid (Calls Try.prog 9 #[.slice a0 N cap0, .slice a1 M cap1, .int .i64 0] w fun e w' => IsBool e ∧ w = w') := by
    rw [hNN]
    exact (over9 a0 cap0 a1 M cap1 0 rs w (by unfold maxLen; omega) (by unfold maxLen; omega) hr0).mono (fun e w'' h => ⟨h.1, h.2.symm⟩)
  rcases hr0 with h0 | ⟨b0, o0, rfl, hc0⟩
  · rw [hNN, h0] at hpos; cases hpos
  have H3 : Hid (Calls Try.prog 10 #[.slice (some ⟨b0, o0, none⟩) N cap0] w fun e w' => e = .returned (.slice (some ⟨w.heap.size, 0, none⟩) N N) ∧ w'.ownsRow w.heap.size 9 1 (.slice (some ⟨w.heap.size, 0, none⟩) N N) N (strs rs) ∧ Below w.heap.size w w') := by
    rw [hNN] at *
    exact copy10 b0 o0 cap0 rs w hN hpos (lt_of_cell (hc0 0 hpos)) hc0
  have HZ : Hid (∀ z ∈ zs, 0 ≤ z ∧ z ≤ 4294967295) := hz
  have HS : Hid (∀ s ∈ rs, s.size ≤ maxLen) := hs
  obtain ⟨hp0, hp1⟩ := hp
  have H4 : Hid (∀ w1, Below w.heap.size w w1 → Calls Try.prog 11 #[.slice a1 M cap1] w1 fun e w' => ∃ v, e = .returned v ∧ w'.ownsRow w1.heap.size 34 1 v M (words zs) ∧ Below w1.heap.size w1 w') := by
    intro w1 hb
    rw [hMM] at *
    refine copy11 a1 cap1 zs w1 hM h1nil ?_
    rcases hr1 with h | ⟨b, off, h, hc⟩
    · exact .inl h
    · by_cases h0 : zs = []
      · exact .inl h0
      · have hlt := lt_of_cell (hc 0 (List.length_pos_iff.2 h0))
        exact .inr ⟨b, off, h, Nat.lt_of_lt_of_le hlt hb.size, fun j hj => (hb.cell (p := ⟨b, off + j, none⟩) hlt).trans (hc j hj)⟩
  clear hz hs hr1 hc0 h1nil
  have HN : Hid (N = rs.length) := hNN
  have HM : Hid (M = zs.length) := hMM
  clear hNN hMM
  go_enter Try.func5, Try.ntmps5
  go_wp2_with fail
  refine H1.out.mono ?_
  rintro e w' ⟨⟨x, rfl⟩, rfl⟩
  cases x
  · go_wp2
    go_ret
    exact ⟨rfl, Below.refl _ _⟩
  go_wp2_with fail
  refine H2.out.mono ?_
  rintro e w' ⟨⟨x, rfl⟩, rfl⟩
  cases x
  case true =>
    go_wp2
    go_ret
    exact ⟨rfl, Below.refl _ _⟩
  clear H1 H2
  go_wp2_with fail
  refine H3.out.mono ?_
  rintro e w1 ⟨rfl, hown1, hb1⟩
  go_wp2_with fail
  refine (H4.out w1 hb1).mono ?_
  rintro e w2 ⟨v2, rfl, hown2, hb2⟩
  clear H3 H4
  go_wp2_with fail
  refine (start22 HN.out HM.out hN hM hpos HZ.out HS.out hown1 hb1 hown2 hb2).mono ?_
  rintro e w4 ⟨mo4, f4, Q4, rfl, hT4, hb4, hcell, hsz⟩
  clear hown1 hown2 hb1 hb2
  obtain ⟨B, hB⟩ : ∃ B, B = w2.heap.size := ⟨_, rfl⟩
  rw [← hB] at hT4 hcell hsz ⊢
  clear hB
  have hr1 : 0 ≤ p % (N : Int) := Int.emod_nonneg _ (by omega)
  have hr2 : p % (N : Int) < (N : Int) := Int.emod_lt_of_pos _ (by omega)
  have hr3 : p % (N : Int) < 4096 := by omega
  have e4 := hcell w4 (Below.refl _ _) (p % (N : Int)).toNat (by omega)
  have hmem : rs.getD (p % (N : Int)).toNat ByteArray.empty ∈ rs := by rw [getD_at (by rw [← HN.out]; omega)]; exact List.getElem_mem _
  generalize rs.getD (p % (N : Int)).toNat ByteArray.empty = s at e4 hmem
  have hss := HS.out s hmem
  have hN' : rs.length ≤ 4096 := by rw [← HN.out]; exact hN
  clear hcell
  go_wp2_with fail
  refine (hT4.hold hmem hss hN' (by omega)).mono ?_
  rintro e w5 ⟨b, mo5, f5, rfl, hT5, hH5, hF5⟩
  clear e4
  go_wp2_with fail
  refine (hT5.order HN.out hN).mono ?_
  rintro e w6 ⟨a6, c6, rfl, ho6, hb6⟩
  have hT6 := hT5.below hb6
  go_wp2_with fail
  refine (hT6.hold hmem hss hN' (by omega)).mono ?_
  rintro e w7 ⟨b7, mo7, f7, rfl, hT7, hH7, hF7⟩
  have hbb : b = b7 := hH7.old b hH5.own
  subst hbb
  rw [sans_sans] at hT7
  have ho7 := owns_fr hT6.tok hF7 ho6
  go_wp2_with fail
  refine (hT7.order HN.out hN).mono ?_
  rintro e w8 ⟨a8, c8, rfl, ho8, hb8⟩
  have hT8 := hT7.below hb8
  have hall : Below w.heap.size w w8 := by
    have h1 : Below w.heap.size w w5 := hb4.trans (hF5.below.mono hsz)
    have h2 : Below w.heap.size w w6 := below_trans h1 hb6
    have h3 : Below w.heap.size w w7 := h2.trans (hF7.below.mono hsz)
    exact below_trans h3 hb8
  have ho8' := owns_below ho7 hb8
  obtain ⟨_, _, e8, hsA, _⟩ := owns_strAt ho8
  obtain ⟨rfl, rfl⟩ : a8 = _ ∧ c8 = _ := by simpa using e8
  obtain ⟨_, _, e8', hsB, _⟩ := owns_strAt ho8'
  obtain ⟨rfl, rfl⟩ : a6 = _ ∧ c6 = _ := by simpa using e8'
  have hfr := (hT8.tok.entCells hH7.own).2.2.1
  have hno : isIn (sans Q4 s) s = false := isIn_false.2 (fun h => (mem_sans.1 h).2 rfl)
  rw [hno] at hfr
  have hlen : (sans Q4 s).length ≤ 4096 := Nat.le_trans hT8.len hN'
  have HE : Hid (Calls Try.prog 18 #[.pointer (some ⟨B, 0, none⟩), .string s] w8 fun e w' => e = .returned (ptr (f7 s)) ∧ w' = w8) := entry18 hT8.tok hss
  have HC : Hid (∀ c, Calls Try.prog 15 #[.slice a8 (sans Q4 s).length c, .string s] w8 fun e w' => e = .returned (.bool (isIn (sans Q4 s) s)) ∧ w' = w8) := fun c => contains15 a8 c _ s w8 (by unfold maxLen; omega) hsA
  have HSm : Hid (∀ c c', Calls Try.prog 17 #[.slice a6 (sans Q4 s).length c, .slice a8 (sans Q4 s).length c'] w8 fun e w' => e = .returned (.bool true) ∧ ∃ m, w' = w8.drewN m) := fun c c' => same17' a6 c a8 c' _ _ w8 rfl hlen hsB hsA
  clear ho6 ho7 ho8 ho8' hb6 hb8 hF5 hF7 hT4 hT5 hT6 hT7 hT8 hb4
  have hps := ptr_same
  have hf7 : ptr (f7 s) = .pointer (some ⟨b, 0, none⟩) := by rw [hH7.own]; rfl
  rw [hf7] at HE
  rw [hno] at HC
  clear hf7 hH5 hH7 hno
  go_wp2_with fail
  refine HE.out.mono ?_
  rintro e w9 ⟨rfl, rfl⟩
  go_wp2_with fail
  refine (isFree19 b false w9 hfr).mono ?_
  rintro e w10 ⟨rfl, rfl⟩
  go_wp2_with fail
  refine (HC.out c8).mono ?_
  rintro e w10 ⟨rfl, rfl⟩
  go_wp2_with fail
  refine (HSm.out c6 c8).mono ?_
  rintro e w11 ⟨rfl, m, rfl⟩
  go_wp2
  go_ret
  exact ⟨rfl, ⟨hall.os, hall.tape, hall.output, hall.size, hall.block⟩⟩
end Go.Proofs.Qxb6001032a
