/- zzRun: a script of holds and frees. -/
import Derived.Test.Qxb6001032aOrder
namespace Go.Proofs.Qxb6001032a
open Go.RowKit Go.Maps
set_option linter.unusedVariables false

/-- A Tokens, all of whose names are among rs. -/
structure TokIn (w : World) (B tb : Nat) (mo : Option Nat) (n : Nat) (f : ByteArray → Option Nat) (Q : List ByteArray) (rs : List ByteArray) : Prop where
  tok : Tok w B tb mo n f Q
  mem : ∀ s b, f s = some b → s ∈ rs

theorem TokIn.len {w : World} {B tb n : Nat} {mo : Option Nat} {f : ByteArray → Option Nat} {Q rs : List ByteArray} (h : TokIn w B tb mo n f Q rs) : Q.length ≤ rs.length :=
  length_le_of_nodup h.tok.nodup (fun x hx => by obtain ⟨b, hb⟩ := h.tok.known x hx; exact h.mem x b hb)

theorem TokIn.held {w w' : World} {B tb n b : Nat} {mo mo' : Option Nat} {f f' : ByteArray → Option Nat} {Q Q' rs : List ByteArray} {s : ByteArray} (h : TokIn w B tb mo n f Q rs) (hs : s ∈ rs) (hT : Tok w' B tb mo' (n + 1) f' Q') (hH : Held w f f' mo mo' s b) :
    TokIn w' B tb mo' (n + 1) f' Q' rs := by
  refine ⟨hT, fun t c ht => ?_⟩
  by_cases e : t = s
  · rw [e]; exact hs
  · rw [hH.other t e] at ht; exact h.mem t c ht

theorem TokIn.freed {w w' : World} {B tb n : Nat} {mo : Option Nat} {f : ByteArray → Option Nat} {Q Q' rs : List ByteArray} (h : TokIn w B tb mo n f Q rs) (hT : Tok w' B tb mo n f Q') : TokIn w' B tb mo (n + 1) f Q' rs :=
  ⟨hT.mono (Nat.le_succ _), h.mem⟩

set_option maxHeartbeats 400000 in
theorem run22_none (tb : Nat) (g : Option Addr) (N c : Nat) (a2 : Option Addr) (cap2 : Nat) (w : World) (hN : N ≤ 4096) :
    Calls Try.prog 22 #[.pointer (some ⟨tb, 0, none⟩), .slice g N c, .slice a2 0 cap2] w fun e w' => e = .returned (.tuple #[]) ∧ w' = w := by
  go_enter Try.func22, Try.ntmps22
  go_wp2
  refine wp_loop_rounds 1 ?_
  rw [rounds_succ]
  go_wp2
  go_end0
  exact ⟨rfl, rfl⟩

set_option maxHeartbeats 1000000 in
theorem run22_more (B tb n g : Nat) (mo : Option Nat) (f : ByteArray → Option Nat) (Q rs : List ByteArray) (zs : List Int) (g2 o2 cap2 : Nat) (w : World) (h : TokIn w B tb mo n f Q rs) (hN : rs.length ≤ 4096) (hpos : 0 < rs.length) (hM : zs.length ≤ 4096) (hn : n + 4096 < 100000)
    (hz : ∀ z ∈ zs, 0 ≤ z ∧ z ≤ 4294967295) (hs : ∀ s ∈ rs, s.size ≤ maxLen) (hg : g < B) (hg2 : g2 < B)
    (hc : ∀ j, j < rs.length → w.cell? ⟨g, j, none⟩ = some (.string (rs.getD j ByteArray.empty))) (hc2 : ∀ j, j < zs.length → w.cell? ⟨g2, o2 + j, none⟩ = some (.int .u32 (zs.getD j 0))) :
    Calls Try.prog 22 #[.pointer (some ⟨tb, 0, none⟩), .slice (some ⟨g, 0, none⟩) rs.length rs.length, .slice (some ⟨g2, o2, none⟩) zs.length cap2] w fun e w' => ∃ mo' f' Q', e = .returned (.tuple #[]) ∧ TokIn w' B tb mo' (n + zs.length) f' Q' rs ∧ Below B w w' := by
  obtain ⟨N, hNN⟩ : ∃ N, N = rs.length := ⟨_, rfl⟩
  obtain ⟨M, hMM⟩ : ∃ M, M = zs.length := ⟨_, rfl⟩
  rw [← hNN] at hN hpos hc ⊢
  rw [← hMM] at hM hc2 ⊢
  have HN : Hid (N = rs.length) := hNN
  have HM : Hid (M = zs.length) := hMM
  have Hz : Hid (∀ z ∈ zs, 0 ≤ z ∧ z ≤ 4294967295) := hz
  have Hs : Hid (∀ s ∈ rs, s.size ≤ maxLen) := hs
  clear hNN hMM hz hs
  go_enter Try.func22, Try.ntmps22
  go_wp2
  go_loopw [7] (fun i wr => ∃ k : Nat, ∃ mo' f' Q', k ≤ M ∧ i = .int .i64 k ∧ TokIn wr B tb mo' (n + k) f' Q' rs ∧ Below B w wr) (fun i _ => M - (intOf i).toNat)
  case atStart => exact ⟨0, mo, f, Q, Nat.zero_le _, rfl, h, Below.refl _ _⟩
  case round =>
    obtain ⟨k, mo', f', Q', hk, rfl, hT, hb⟩ := hrel
    clear h
    by_cases hlt : k < M
    · have e1 := (hb.cell (p := ⟨g2, o2 + k, none⟩) hg2).trans (hc2 k hlt)
      have e2 : 0 ≤ zs.getD k 0 ∧ zs.getD k 0 ≤ 4294967295 := Hz.out _ (by rw [getW_at (HM.out ▸ hlt)]; exact List.getElem_mem _)
      generalize zs.getD k 0 = z at e1 e2
      obtain ⟨e2, e3⟩ := e2
      have hr1 : 0 ≤ z / 2 % (N : Int) := Int.emod_nonneg _ (by omega)
      have hr2 : z / 2 % (N : Int) < (N : Int) := Int.emod_lt_of_pos _ (by omega)
      have hr3 : z / 2 % (N : Int) < 4096 := by omega
      have e4 := (hb.cell (p := ⟨g, (z / 2 % (N : Int)).toNat, none⟩) hg).trans (hc (z / 2 % (N : Int)).toNat (by omega))
      have hmem : rs.getD (z / 2 % (N : Int)).toNat ByteArray.empty ∈ rs := by rw [getD_at (by rw [← HN.out]; omega)]; exact List.getElem_mem _
      generalize rs.getD (z / 2 % (N : Int)).toNat ByteArray.empty = s at e4 hmem
      have hsz := Hs.out s hmem
      have hlq : Q'.length ≤ 4096 := Nat.le_trans hT.len (by rw [← HN.out]; exact hN)
      have HT : Hid (TokIn wr B tb mo' (n + k) f' Q' rs) := hT
      clear hc hc2 hT
      go_wp2_with (first
        | (go_at_call 12; refine (hold12 HT.out.tok hsz hlq (by omega)).mono ?_; rintro e w' ⟨b, mo2, f2, rfl, hT2, hH2, hF2⟩)
        | (go_at_call 14; refine (free14 HT.out.tok hsz hlq).mono ?_; rintro e w' ⟨rfl, hT2, hF2⟩))
      · go_roundw
        case rel => exact ⟨k + 1, _, _, _, by omega, by go_num, HT.out.held hmem hT2 hH2, hb.trans hF2.below⟩
        case measure => simp [intOf]; omega
      · go_roundw
        case rel => exact ⟨k + 1, _, _, _, by omega, by go_num, HT.out.freed hT2, hb.trans hF2.below⟩
        case measure => simp [intOf]; omega
    · clear hc hc2
      have hkM : k = M := by omega
      subst hkM
      go_wp2
      go_end0
      exact ⟨mo', f', Q', rfl, hT, hb⟩

theorem run22 (B tb n g : Nat) (mo : Option Nat) (f : ByteArray → Option Nat) (Q rs : List ByteArray) (zs : List Int) (a2 : Option Addr) (cap2 : Nat) (w : World) (h : TokIn w B tb mo n f Q rs) (hN : rs.length ≤ 4096) (hpos : 0 < rs.length) (hM : zs.length ≤ 4096) (hn : n + 4096 < 100000)
    (hz : ∀ z ∈ zs, 0 ≤ z ∧ z ≤ 4294967295) (hs : ∀ s ∈ rs, s.size ≤ maxLen) (hg : g < B)
    (hc : ∀ j, j < rs.length → w.cell? ⟨g, j, none⟩ = some (.string (rs.getD j ByteArray.empty))) (hr : WordAt w a2 zs) (hg2 : ∀ b off, a2 = some ⟨b, off, none⟩ → b < B) :
    Calls Try.prog 22 #[.pointer (some ⟨tb, 0, none⟩), .slice (some ⟨g, 0, none⟩) rs.length rs.length, .slice a2 zs.length cap2] w fun e w' => ∃ mo' f' Q', e = .returned (.tuple #[]) ∧ TokIn w' B tb mo' (n + zs.length) f' Q' rs ∧ Below B w w' := by
  by_cases h0 : zs = []
  · subst h0
    refine (run22_none tb _ _ _ a2 cap2 w hN).mono ?_
    rintro e w' ⟨rfl, rfl⟩
    exact ⟨mo, f, Q, rfl, h, Below.refl _ _⟩
  · rcases hr with rfl | ⟨g2, o2, rfl, hc2⟩
    · exact absurd rfl h0
    exact run22_more B tb n g mo f Q rs zs g2 o2 cap2 w h hN hpos hM hn hz hs hg (hg2 _ _ rfl) hc hc2
end Go.Proofs.Qxb6001032a
