/- unlink: the contract. -/
import Derived.Test.Qxb6001032aUnlink
namespace Go.Proofs.Qxb6001032a
open Go.RowKit Go.Maps
set_option linter.unusedVariables false

variable {f : ByteArray → Option Nat} {mo : Option Nat}

theorem tokC_mid (l1 l2 : List ByteArray) (p s nx : ByteArray) : (tokC f (l1 ++ [p] ++ s :: nx :: l2) mo).setIfInBounds 3 (.int .i64 (((l1 ++ [p] ++ s :: nx :: l2).length : Int) - 1)) = tokC f (l1 ++ [p] ++ nx :: l2) mo := by
  have e1 : (l1 ++ [p] ++ s :: nx :: l2).head? = (l1 ++ [p] ++ nx :: l2).head? := by simp [List.head?_append]
  have e2 : (l1 ++ [p] ++ s :: nx :: l2).getLast? = (l1 ++ [p] ++ nx :: l2).getLast? := by simp [List.getLast?_append, List.getLast?_cons_cons]
  have e3 : (((l1 ++ [p] ++ s :: nx :: l2).length : Int) - 1) = ((l1 ++ [p] ++ nx :: l2).length : Int) := by simp; omega
  rw [e3]
  simp only [tokC, e1, e2]
  rfl

theorem tokC_first (l2 : List ByteArray) (s nx : ByteArray) : ((tokC f ([] ++ s :: nx :: l2) mo).setIfInBounds 1 (ptr (f nx))).setIfInBounds 3 (.int .i64 ((([] ++ s :: nx :: l2).length : Int) - 1)) = tokC f ([] ++ nx :: l2) mo := by
  have e2 : ([] ++ s :: nx :: l2).getLast? = ([] ++ nx :: l2).getLast? := by simp [List.getLast?_cons_cons]
  have e3 : ((([] ++ s :: nx :: l2).length : Int) - 1) = (([] ++ nx :: l2).length : Int) := by simp
  rw [e3]
  simp only [tokC, e2]
  rfl

theorem tokC_last (l1 : List ByteArray) (p s : ByteArray) : ((tokC f (l1 ++ [p] ++ s :: []) mo).setIfInBounds 2 (ptr (f p))).setIfInBounds 3 (.int .i64 (((l1 ++ [p] ++ s :: []).length : Int) - 1)) = tokC f (l1 ++ [p] ++ []) mo := by
  have e1 : (l1 ++ [p] ++ s :: []).head? = (l1 ++ [p] ++ []).head? := by simp [List.head?_append]
  have e2 : (l1 ++ [p] ++ []).getLast? = some p := by simp
  have e3 : (((l1 ++ [p] ++ s :: []).length : Int) - 1) = ((l1 ++ [p] ++ []).length : Int) := by simp; omega
  rw [e3]
  simp only [tokC, e1, e2]
  rfl

theorem tokC_only (s : ByteArray) : (((tokC f ([] ++ s :: []) mo).setIfInBounds 1 (.pointer none)).setIfInBounds 2 (.pointer none)).setIfInBounds 3 (.int .i64 ((([] ++ s :: []).length : Int) - 1)) = tokC f ([] ++ []) mo := by
  rfl

theorem entC_gone {Q Q' : List ByteArray} {s : ByteArray} (h : s ∉ Q') : (((entC f Q s).setIfInBounds 3 (.bool false)).setIfInBounds 4 (.pointer none)).setIfInBounds 5 (.pointer none) = entC f Q' s := by
  rw [entC_out h]
  rfl

variable {w : World} {B tb n b : Nat} {l1 l2 : List ByteArray} {s p nx : ByteArray}

theorem unl_blocks_mid (h : Tok w B tb mo n f (l1 ++ [p] ++ s :: nx :: l2)) (h1 : s ∉ l1 ++ [p]) (h2 : s ∉ nx :: l2) (hb : f s = some b) {o m : Nat} (ho : f p = some o) (hm : f nx = some m)
    (hto : tb ≠ o) (htm : tb ≠ m) (htb : tb ≠ b) (hbo : b ≠ o) (hbm : b ≠ m) (hom : o ≠ m) :
    Unl w ((((((w.setCell ⟨o, 5, none⟩ (.pointer (some ⟨m, 0, none⟩))).setCell ⟨m, 4, none⟩ (.pointer (some ⟨o, 0, none⟩))).setCell ⟨b, 3, none⟩ (.bool false)).setCell ⟨b, 4, none⟩ (.pointer none)).setCell ⟨b, 5, none⟩ (.pointer none)).setCell ⟨tb, 3, none⟩ (.int .i64 (((l1 ++ [p] ++ s :: nx :: l2).length : Int) - 1))).drew.drew
      tb b f (l1 ++ [p]) (nx :: l2) mo s := by
  have t1 := h.cells
  have b1 := (h.ent s b hb).2
  have o1 := (h.ent p o ho).2
  have m1 := (h.ent nx m hm).2
  refine ⟨((((((((Same.refl w).set _ _).set _ _).set _ _).set _ _).set _ _).set _ _).drew).drew, ?_, ?_, ?_, ?_, ?_⟩
  · rw [← tokC_mid (s := s)]
    simp only [heap_drew, heap_set, if_pos, if_neg htb, if_neg htm, if_neg hto, t1, Option.map_some, upd]
  · rw [← entC_gone (Q := l1 ++ [p] ++ s :: nx :: l2) (by simp at h1 h2 ⊢; exact ⟨h1.1, h1.2, h2.1, h2.2⟩)]
    simp only [heap_drew, heap_set, if_pos, if_neg htb.symm, if_neg hbm, if_neg hbo, b1, Option.map_some, upd]
  · intro q c hq hc
    have : q = p := by simpa using hq.symm
    subst this
    rw [ho] at hc; cases hc
    simp only [heap_drew, heap_set, if_pos, if_neg hto.symm, if_neg hom, if_neg hbo.symm, o1, Option.map_some, upd, List.head?_cons, Option.bind_some, hm, ptr]
  · intro q c hq hc
    have : q = nx := by simpa using hq.symm
    subst this
    rw [hm] at hc; cases hc
    have e : (l1 ++ [p]).getLast? = some p := by simp
    simp only [heap_drew, heap_set, if_pos, if_neg htm.symm, if_neg hom.symm, if_neg hbm.symm, m1, Option.map_some, upd, e, Option.bind_some, ho, ptr]
  · intro k hk hkb hko hkm
    have e1 : k ≠ o := fun e => hko p (by simp) (e ▸ ho)
    have e2 : k ≠ m := fun e => hkm nx rfl (e ▸ hm)
    simp only [heap_drew, heap_set, if_neg hk, if_neg hkb, if_neg e1, if_neg e2]

theorem unl_blocks_first (h : Tok w B tb mo n f ([] ++ s :: nx :: l2)) (h2 : s ∉ nx :: l2) (hb : f s = some b) {m : Nat} (hm : f nx = some m)
    (htm : tb ≠ m) (htb : tb ≠ b) (hbm : b ≠ m) :
    Unl w ((((((w.setCell ⟨tb, 1, none⟩ (.pointer (some ⟨m, 0, none⟩))).setCell ⟨m, 4, none⟩ (.pointer none)).setCell ⟨b, 3, none⟩ (.bool false)).setCell ⟨b, 4, none⟩ (.pointer none)).setCell ⟨b, 5, none⟩ (.pointer none)).setCell ⟨tb, 3, none⟩ (.int .i64 ((([] ++ s :: nx :: l2).length : Int) - 1))).drew
      tb b f [] (nx :: l2) mo s := by
  have t1 := h.cells
  have b1 := (h.ent s b hb).2
  have m1 := (h.ent nx m hm).2
  refine ⟨((((((((Same.refl w).set _ _).set _ _).set _ _).set _ _).set _ _).set _ _).drew), ?_, ?_, ?_, ?_, ?_⟩
  · rw [← tokC_first (s := s)]
    simp only [heap_drew, heap_set, if_pos, if_neg htb, if_neg htm, t1, Option.map_some, upd, hm, ptr]
  · rw [← entC_gone (Q := [] ++ s :: nx :: l2) (by simpa using h2)]
    simp only [heap_drew, heap_set, if_pos, if_neg htb.symm, if_neg hbm, b1, Option.map_some, upd]
  · intro q c hq hc
    simp at hq
  · intro q c hq hc
    have : q = nx := by simpa using hq.symm
    subst this
    rw [hm] at hc; cases hc
    simp only [heap_drew, heap_set, if_pos, if_neg htm.symm, if_neg hbm.symm, m1, Option.map_some, upd, List.getLast?_nil, Option.bind_none, ptr]
  · intro k hk hkb hko hkm
    have e2 : k ≠ m := fun e => hkm nx rfl (e ▸ hm)
    simp only [heap_drew, heap_set, if_neg hk, if_neg hkb, if_neg e2]

theorem unl_blocks_last (h : Tok w B tb mo n f (l1 ++ [p] ++ s :: [])) (h1 : s ∉ l1 ++ [p]) (hb : f s = some b) {o : Nat} (ho : f p = some o)
    (hto : tb ≠ o) (htb : tb ≠ b) (hbo : b ≠ o) :
    Unl w ((((((w.setCell ⟨o, 5, none⟩ (.pointer none)).setCell ⟨tb, 2, none⟩ (.pointer (some ⟨o, 0, none⟩))).setCell ⟨b, 3, none⟩ (.bool false)).setCell ⟨b, 4, none⟩ (.pointer none)).setCell ⟨b, 5, none⟩ (.pointer none)).setCell ⟨tb, 3, none⟩ (.int .i64 (((l1 ++ [p] ++ s :: []).length : Int) - 1))).drew
      tb b f (l1 ++ [p]) [] mo s := by
  have t1 := h.cells
  have b1 := (h.ent s b hb).2
  have o1 := (h.ent p o ho).2
  refine ⟨((((((((Same.refl w).set _ _).set _ _).set _ _).set _ _).set _ _).set _ _).drew), ?_, ?_, ?_, ?_, ?_⟩
  · rw [← tokC_last (s := s)]
    simp only [heap_drew, heap_set, if_pos, if_neg htb, if_neg hto, t1, Option.map_some, upd, ho, ptr]
  · rw [← entC_gone (Q := l1 ++ [p] ++ s :: []) (by simpa using h1)]
    simp only [heap_drew, heap_set, if_pos, if_neg htb.symm, if_neg hbo, b1, Option.map_some, upd]
  · intro q c hq hc
    have : q = p := by simpa using hq.symm
    subst this
    rw [ho] at hc; cases hc
    simp only [heap_drew, heap_set, if_pos, if_neg hto.symm, if_neg hbo.symm, o1, Option.map_some, upd, List.head?_nil, Option.bind_none, ptr]
  · intro q c hq hc
    simp at hq
  · intro k hk hkb hko hkm
    have e1 : k ≠ o := fun e => hko p (by simp) (e ▸ ho)
    simp only [heap_drew, heap_set, if_neg hk, if_neg hkb, if_neg e1]

theorem unl_blocks_only (h : Tok w B tb mo n f ([] ++ s :: [])) (hb : f s = some b) (htb : tb ≠ b) :
    Unl w ((((((w.setCell ⟨tb, 1, none⟩ (.pointer none)).setCell ⟨tb, 2, none⟩ (.pointer none)).setCell ⟨b, 3, none⟩ (.bool false)).setCell ⟨b, 4, none⟩ (.pointer none)).setCell ⟨b, 5, none⟩ (.pointer none)).setCell ⟨tb, 3, none⟩ (.int .i64 ((([] ++ s :: []).length : Int) - 1)))
      tb b f [] [] mo s := by
  have t1 := h.cells
  have b1 := (h.ent s b hb).2
  refine ⟨((((((((Same.refl w).set _ _).set _ _).set _ _).set _ _).set _ _).set _ _)), ?_, ?_, ?_, ?_, ?_⟩
  · rw [← tokC_only (s := s)]
    simp only [heap_set, if_pos, if_neg htb, t1, Option.map_some, upd]
  · rw [← entC_gone (Q := [] ++ s :: []) (by simp)]
    simp only [heap_set, if_pos, if_neg htb.symm, b1, Option.map_some, upd]
  · intro q c hq hc
    simp at hq
  · intro q c hq hc
    simp at hq
  · intro k hk hkb hko hkm
    simp only [heap_set, if_neg hk, if_neg hkb]

theorem unlink35 {Q : List ByteArray} (h : Tok w B tb mo n f Q) (hs : s ∈ Q) (hb : f s = some b) (hl : Q.length ≤ 4096) :
    Calls Try.prog 35 #[.pointer (some ⟨tb, 0, none⟩), .pointer (some ⟨b, 0, none⟩)] w fun e w' => e = .returned (.tuple #[]) ∧ Tok w' B tb mo n f (sans Q s) ∧ Fr B tb mo f w w' := by
  obtain ⟨l1, l2, rfl, h1, h2⟩ := split_of_mem h.nodup hs
  have hb2 := (h.ent s b hb).2
  have htb := h.cells
  have htne : tb ≠ b := (h.ne_tb hb).symm
  have c3 : w.cell? ⟨b, 3, none⟩ = some (.bool (isIn (l1 ++ s :: l2) s)) := cell_of hb2 3
  have c4 : w.cell? ⟨b, 4, none⟩ = some (ptr ((older (l1 ++ s :: l2) s).bind f)) := cell_of hb2 4
  have c5 : w.cell? ⟨b, 5, none⟩ = some (ptr ((newer (l1 ++ s :: l2) s).bind f)) := cell_of hb2 5
  rw [isIn_true.2 hs] at c3
  rw [older_split h2] at c4
  rw [newer_split h1] at c5
  have t1 : w.cell? ⟨tb, 1, none⟩ = some (ptr ((l1 ++ s :: l2).head?.bind f)) := cell_of htb 1
  have t2 : w.cell? ⟨tb, 2, none⟩ = some (ptr ((l1 ++ s :: l2).getLast?.bind f)) := cell_of htb 2
  have t3 : w.cell? ⟨tb, 3, none⟩ = some (.int .i64 ((l1 ++ s :: l2).length : Int)) := cell_of htb 3
  have hpos : 1 ≤ ((l1 ++ s :: l2).length : Int) := by simp; omega
  have hle : ((l1 ++ s :: l2).length : Int) ≤ 4096 := by omega
  have hp : ∀ o, ∃ q, ptr o = .pointer q := fun o => by cases o <;> exact ⟨_, rfl⟩
  obtain ⟨q1, hq1⟩ := hp ((l1 ++ s :: l2).head?.bind f)
  obtain ⟨q2, hq2⟩ := hp ((l1 ++ s :: l2).getLast?.bind f)
  rw [hq1] at t1
  rw [hq2] at t2
  have zt := frozen_of htb
  have zb := frozen_of hb2
  rcases List.eq_nil_or_concat l1 with rfl | ⟨l1', p, rfl⟩
  · rcases l2 with _ | ⟨nx, l2'⟩
    · refine (unl_only tb b _ w htne c4 c5 t1 t2 t3 hpos hle c3 zb zt).mono ?_
      rintro e w' ⟨rfl, rfl⟩
      exact ⟨rfl, h.unlinked hb h1 h2 (unl_blocks_only h hb htne)⟩
    · obtain ⟨m, hm⟩ := h.known nx (by simp)
      have hm2 := (h.ent nx m hm).2
      obtain ⟨q4, hq4⟩ := hp ((older ([] ++ s :: nx :: l2') nx).bind f)
      have m4 : w.cell? ⟨m, 4, none⟩ = some (.pointer q4) := hq4 ▸ cell_of hm2 4
      have hbm : b ≠ m := by rintro rfl; exact absurd (h.inj hb hm) (by simp at h2; exact h2.1)
      have c5' : w.cell? ⟨b, 5, none⟩ = some (.pointer (some ⟨m, 0, none⟩)) := by rw [c5]; simp [hm, ptr]
      refine (unl_first tb b m _ w htne (h.ne_tb hm).symm hbm c4 c5' t1 t3 hpos hle c3 m4 zb (frozen_of hm2) zt).mono ?_
      rintro e w' ⟨rfl, rfl⟩
      exact ⟨rfl, h.unlinked hb h1 h2 (unl_blocks_first h h2 hb hm (h.ne_tb hm).symm htne hbm)⟩
  · rw [List.concat_eq_append] at *
    obtain ⟨o, ho⟩ := h.known p (by simp)
    have ho2 := (h.ent p o ho).2
    obtain ⟨q5, hq5⟩ := hp ((newer (l1' ++ [p] ++ s :: l2) p).bind f)
    have o5 : w.cell? ⟨o, 5, none⟩ = some (.pointer q5) := hq5 ▸ cell_of ho2 5
    have hbo : b ≠ o := by rintro rfl; exact absurd (h.inj hb ho) (by simp at h1; exact h1.2)
    have c4' : w.cell? ⟨b, 4, none⟩ = some (.pointer (some ⟨o, 0, none⟩)) := by rw [c4]; simp [ho, ptr]
    rcases l2 with _ | ⟨nx, l2'⟩
    · refine (unl_last tb b o _ w htne (h.ne_tb ho).symm hbo c4' c5 t2 t3 hpos hle c3 o5 zb (frozen_of ho2) zt).mono ?_
      rintro e w' ⟨rfl, rfl⟩
      exact ⟨rfl, h.unlinked hb h1 h2 (unl_blocks_last h h1 hb ho (h.ne_tb ho).symm htne hbo)⟩
    · obtain ⟨m, hm⟩ := h.known nx (by simp)
      have hm2 := (h.ent nx m hm).2
      obtain ⟨q4, hq4⟩ := hp ((older (l1' ++ [p] ++ s :: nx :: l2') nx).bind f)
      have m4 : w.cell? ⟨m, 4, none⟩ = some (.pointer q4) := hq4 ▸ cell_of hm2 4
      have hbm : b ≠ m := by rintro rfl; exact absurd (h.inj hb hm) (by simp at h2; exact h2.1)
      have hom : o ≠ m := by
        rintro rfl
        have := h.inj ho hm
        subst this
        have hd := (List.nodup_append.1 h.nodup).2.2 p (by simp) p (by simp)
        exact hd rfl
      have c5' : w.cell? ⟨b, 5, none⟩ = some (.pointer (some ⟨m, 0, none⟩)) := by rw [c5]; simp [hm, ptr]
      refine (unl_mid tb b o m _ w htne (h.ne_tb ho).symm (h.ne_tb hm).symm hbo hbm hom c4' c5' t3 hpos hle c3 m4 o5 zb (frozen_of ho2) (frozen_of hm2) zt).mono ?_
      rintro e w' ⟨rfl, rfl⟩
      exact ⟨rfl, h.unlinked hb h1 h2 (unl_blocks_mid h h1 h2 hb ho hm (h.ne_tb ho).symm (h.ne_tb hm).symm htne hbo hbm hom)⟩
end Go.Proofs.Qxb6001032a
