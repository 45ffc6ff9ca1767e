/- free, hold, the shims: their contracts over the Tokens. -/
import Derived.Test.Qxb6001032aFree
namespace Go.Proofs.Qxb6001032a
open Go.RowKit Go.Maps
set_option linter.unusedVariables false

variable {w : World} {B tb n : Nat} {mo : Option Nat} {f : ByteArray → Option Nat} {Q : List ByteArray} {s : ByteArray}

/-- The queue behind a free of s. -/
def freeQ (f : ByteArray → Option Nat) (Q : List ByteArray) (s : ByteArray) : List ByteArray := if (f s).isSome && !isIn Q s then Q ++ [s] else Q

theorem freeQ_none (h : f s = none) : freeQ f Q s = Q := by simp [freeQ, h]
theorem freeQ_in (h : s ∈ Q) : freeQ f Q s = Q := by simp [freeQ, isIn_true.2 h]
theorem freeQ_out {b : Nat} (h : f s = some b) (h' : s ∉ Q) : freeQ f Q s = Q ++ [s] := by simp [freeQ, h, isIn_false.2 h']

theorem ptr_pointer (o : Option Nat) : ∃ q, ptr o = .pointer q := by cases o <;> exact ⟨_, rfl⟩

theorem Tok.tokCells (h : Tok w B tb mo n f Q) : w.cell? ⟨tb, 0, none⟩ = some (.map mo) ∧ w.cell? ⟨tb, 1, none⟩ = some (ptr (Q.head?.bind f)) ∧ w.cell? ⟨tb, 2, none⟩ = some (ptr (Q.getLast?.bind f)) ∧
    w.cell? ⟨tb, 3, none⟩ = some (.int .i64 (Q.length : Int)) ∧ w.cell? ⟨tb, 4, none⟩ = some (.int .u64 0) := by
  have c := h.cells
  exact ⟨cell_of c 0, cell_of c 1, cell_of c 2, cell_of c 3, cell_of c 4⟩

theorem Tok.entCells (h : Tok w B tb mo n f Q) {b : Nat} (hb : f s = some b) : w.cell? ⟨b, 0, none⟩ = some (.string s) ∧ w.cell? ⟨b, 1, none⟩ = some (.int .u64 0) ∧ w.cell? ⟨b, 3, none⟩ = some (.bool (isIn Q s)) ∧
    w.cell? ⟨b, 4, none⟩ = some (ptr ((older Q s).bind f)) ∧ w.cell? ⟨b, 5, none⟩ = some (ptr ((newer Q s).bind f)) := by
  have c := (h.ent s b hb).2
  exact ⟨cell_of c 0, cell_of c 1, cell_of c 3, cell_of c 4, cell_of c 5⟩

theorem Tok.freed_first (h : Tok w B tb mo n f []) {b : Nat} (hb : f s = some b) :
    Tok ((((((w.setCell ⟨b, 3, none⟩ (.bool true)).setCell ⟨b, 4, none⟩ (.pointer none)).setCell ⟨b, 5, none⟩ (.pointer none)).setCell ⟨tb, 1, none⟩ (.pointer (some ⟨b, 0, none⟩))).setCell ⟨tb, 2, none⟩ (.pointer (some ⟨b, 0, none⟩))).setCell ⟨tb, 3, none⟩ (.int .i64 ((([] : List ByteArray).length : Int) + 1)))
      B tb mo n f ([] ++ [s]) ∧ Fr B tb mo f w ((((((w.setCell ⟨b, 3, none⟩ (.bool true)).setCell ⟨b, 4, none⟩ (.pointer none)).setCell ⟨b, 5, none⟩ (.pointer none)).setCell ⟨tb, 1, none⟩ (.pointer (some ⟨b, 0, none⟩))).setCell ⟨tb, 2, none⟩ (.pointer (some ⟨b, 0, none⟩))).setCell ⟨tb, 3, none⟩ (.int .i64 ((([] : List ByteArray).length : Int) + 1))) := by
  have htb : tb ≠ b := (h.ne_tb hb).symm
  have t1 := h.cells
  have b1 := (h.ent s b hb).2
  refine h.turned (((((((Same.refl w).set _ _).set _ _).set _ _).set _ _).set _ _).set _ _) ?_ ?_ ?_ (by simp) (fun t ht => by simp at ht; subst ht; exact ⟨b, hb⟩)
  · simp only [heap_set, if_pos, if_neg htb, t1, Option.map_some, upd]
    simp only [tokC, List.nil_append, List.head?_cons, List.getLast?_singleton, Option.bind_some, hb, ptr]
    rfl
  · intro t c ht
    by_cases e : t = s
    · subst e
      rw [hb] at ht; cases ht
      rw [entC_snoc_self (by simp)]
      simp only [heap_set, if_pos, if_neg htb.symm, b1, Option.map_some, upd]
      rfl
    · have hcb : c ≠ b := fun e' => e (h.inj ht (e' ▸ hb))
      rw [entC_snoc_other e (by simp)]
      simp only [heap_set, if_neg hcb, if_neg (h.ne_tb ht), (h.ent t c ht).2]
  · intro k hk hk'
    have : k ≠ b := fun e => hk' s (e ▸ hb)
    simp only [heap_set, if_neg hk, if_neg this]

theorem Tok.freed_more {l : List ByteArray} {p : ByteArray} (h : Tok w B tb mo n f (l ++ [p])) (hs : s ∉ l ++ [p]) {b o : Nat} (hb : f s = some b) (ho : f p = some o) (hbo : b ≠ o) :
    Tok ((((((w.setCell ⟨b, 3, none⟩ (.bool true)).setCell ⟨b, 4, none⟩ (.pointer (some ⟨o, 0, none⟩))).setCell ⟨b, 5, none⟩ (.pointer none)).setCell ⟨o, 5, none⟩ (.pointer (some ⟨b, 0, none⟩))).setCell ⟨tb, 2, none⟩ (.pointer (some ⟨b, 0, none⟩))).setCell ⟨tb, 3, none⟩ (.int .i64 (((l ++ [p]).length : Int) + 1)))
      B tb mo n f (l ++ [p] ++ [s]) ∧ Fr B tb mo f w ((((((w.setCell ⟨b, 3, none⟩ (.bool true)).setCell ⟨b, 4, none⟩ (.pointer (some ⟨o, 0, none⟩))).setCell ⟨b, 5, none⟩ (.pointer none)).setCell ⟨o, 5, none⟩ (.pointer (some ⟨b, 0, none⟩))).setCell ⟨tb, 2, none⟩ (.pointer (some ⟨b, 0, none⟩))).setCell ⟨tb, 3, none⟩ (.int .i64 (((l ++ [p]).length : Int) + 1))) := by
  have htb : tb ≠ b := (h.ne_tb hb).symm
  have hto : tb ≠ o := (h.ne_tb ho).symm
  have t1 := h.cells
  have b1 := (h.ent s b hb).2
  have o1 := (h.ent p o ho).2
  have e0 : (l ++ [p]).getLast? = some p := by simp
  have hps : p ≠ s := fun e => hs (by simp [e])
  refine h.turned (((((((Same.refl w).set _ _).set _ _).set _ _).set _ _).set _ _).set _ _) ?_ ?_ ?_ (nodup_snoc h.nodup hs) (fun t ht => by
    rcases List.mem_append.1 ht with ht | ht
    · exact h.known t ht
    · simp at ht; subst ht; exact ⟨b, hb⟩)
  · simp only [heap_set, if_pos, if_neg htb, if_neg hto, t1, Option.map_some, upd]
    have e1 : (l ++ [p] ++ [s]).head? = (l ++ [p]).head? := by simp [List.head?_append]
    have e2 : (l ++ [p] ++ [s]).getLast? = some s := by simp
    have e3 : ((l ++ [p]).length : Int) + 1 = ((l ++ [p] ++ [s]).length : Int) := by simp; omega
    rw [e3]
    simp only [tokC, e1, e2, Option.bind_some, hb, ptr]
    rfl
  · intro t c ht
    by_cases e : t = s
    · subst e
      rw [hb] at ht; cases ht
      rw [entC_snoc_self hs, e0]
      simp only [heap_set, if_pos, if_neg htb.symm, if_neg hbo, b1, Option.map_some, upd, Option.bind_some, ho, ptr]
      rfl
    · have hcb : c ≠ b := fun e' => e (h.inj ht (e' ▸ hb))
      by_cases e1 : t = p
      · subst e1
        rw [ho] at ht; cases ht
        rw [entC_snoc_last (fun hm => (List.nodup_append.1 h.nodup).2.2 t hm t (by simp) rfl) hps]
        simp only [heap_set, if_pos, if_neg hto.symm, if_neg hbo.symm, o1, Option.map_some, upd, hb, ptr]
      · have hco : c ≠ o := fun e' => e1 (h.inj ht (e' ▸ ho))
        rw [entC_snoc_other e (by rw [e0]; simp; exact fun e' => e1 e'.symm)]
        simp only [heap_set, if_neg hcb, if_neg hco, if_neg (h.ne_tb ht), (h.ent t c ht).2]
  · intro k hk hk'
    have e1 : k ≠ b := fun e => hk' s (e ▸ hb)
    have e2 : k ≠ o := fun e => hk' p (e ▸ ho)
    simp only [heap_set, if_neg hk, if_neg e1, if_neg e2]

theorem free30 (h : Tok w B tb mo n f Q) (hs : s.size ≤ maxLen) (hl : Q.length ≤ 4096) :
    Calls Try.prog 30 #[.pointer (some ⟨tb, 0, none⟩), .string s] w fun e w' => e = .returned (.tuple #[]) ∧ Tok w' B tb mo n f (freeQ f Q s) ∧ Fr B tb mo f w w' := by
  have hlk := h.look_ok hs
  obtain ⟨t0, t1, t2, t3, t4⟩ := h.tokCells
  cases hb : f s with
  | none =>
    rw [hb] at hlk
    refine (free_none tb s mo w t0 hlk).mono ?_
    rintro e w' ⟨rfl, rfl⟩
    rw [freeQ_none hb]
    exact ⟨rfl, h, Fr.refl _ _ _ _ _⟩
  | some b =>
    rw [hb] at hlk
    obtain ⟨c0, c1, c3, c4, c5⟩ := h.entCells hb
    by_cases hq : s ∈ Q
    · rw [isIn_true.2 hq] at c3
      refine (free_free tb b s mo w t0 hlk c3).mono ?_
      rintro e w' ⟨rfl, rfl⟩
      rw [freeQ_in hq]
      exact ⟨rfl, h, Fr.refl _ _ _ _ _⟩
    · rw [isIn_false.2 hq] at c3
      rw [older_not_mem hq] at c4
      rw [newer_not_mem hq] at c5
      rw [freeQ_out hb hq]
      have zb := frozen_of (h.ent s b hb).2
      have zt := frozen_of h.cells
      rcases List.eq_nil_or_concat Q with rfl | ⟨l, p, rfl⟩
      · refine (free_first tb b s mo _ w (h.ne_tb hb).symm t0 hlk c3 c4 c5 t1 t2 t3 (by simp) (by simp) zb zt).mono ?_
        rintro e w' ⟨rfl, rfl⟩
        exact ⟨rfl, h.freed_first hb⟩
      · rw [List.concat_eq_append] at *
        obtain ⟨o, ho⟩ := h.known p (by simp)
        have hbo : b ≠ o := by rintro rfl; exact hq (by simp [h.inj hb ho])
        obtain ⟨q5, hq5⟩ := ptr_pointer ((newer (l ++ [p]) p).bind f)
        have o5 := (h.entCells ho).2.2.2.2
        rw [hq5] at o5
        have t2' : w.cell? ⟨tb, 2, none⟩ = some (.pointer (some ⟨o, 0, none⟩)) := by rw [t2]; simp [ho, ptr]
        refine (free_more tb b o s mo _ w (h.ne_tb hb).symm (h.ne_tb ho).symm hbo t0 hlk c3 c4 c5 o5 t2' t3 (by omega) (by omega) zb (frozen_of (h.ent p o ho).2) zt).mono ?_
        rintro e w' ⟨rfl, rfl⟩
        exact ⟨rfl, h.freed_more hq hb ho hbo⟩

/-- f with s in block b. -/
def put (f : ByteArray → Option Nat) (s : ByteArray) (b : Nat) (t : ByteArray) : Option Nat := if t = s then some b else f t

/-- What a hold of s may turn of f and of the map: s gets its entry; new things lie in new blocks. -/
structure Held (w : World) (f f' : ByteArray → Option Nat) (mo mo' : Option Nat) (s : ByteArray) (b : Nat) : Prop where
  own : f' s = some b
  other : ∀ t, t ≠ s → f' t = f t
  old : ∀ c, f s = some c → c = b
  new : f s = some b ∨ w.heap.size ≤ b
  map : mo' = mo ∨ ∃ k, mo' = some k ∧ w.heap.size ≤ k

theorem MapIs.mono {k : Nat} (h : MapIs w B mo n f) (hk : n ≤ k) : MapIs w B mo k f := by
  rcases h with h | ⟨mb, D, h0, hB, hm, hf⟩
  · exact .inl h
  · exact .inr ⟨mb, D, h0, hB, hm.mono hk, hf⟩

theorem Tok.mono {k : Nat} (h : Tok w B tb mo n f Q) (hk : n ≤ k) : Tok w B tb mo k f Q := ⟨h.hB, h.cells, h.map.mono hk, h.ent, h.nodup, h.known⟩

theorem key_lit (t : ByteArray) : WideAt.IsKeyLit (key t) := by unfold key; exact trivial

/-- A new name's entry has been laid; the map bears it. -/
theorem Tok.laid {w' : World} {mb b : Nat} {D : DataW Unit} (h : Tok w B tb mo n f Q) (hf0 : f s = none) (hD : IsMap D) (hf : ∀ t, D.atKey (key t) .nil = dat (f t) ∧ Maps.has D (key t) = (f t).isSome)
    (hmb : B ≤ mb) (hb : w.heap.size ≤ b) (hown : w'.ownsMap Try.prog 9 ptrElem mb (n + 1) (D.put (key s) (dat (some b))))
    (htb : w'.heap[tb]? = some (.cells (tokC f Q (some mb)) 32 (0, 0))) (hnew : w'.heap[b]? = some (.cells #[.string s, .int .u64 0, .int .u64 0, .bool false, .pointer none, .pointer none] 56 (0, 0)))
    (hold : ∀ t c, f t = some c → w'.heap[c]? = w.heap[c]?) : Tok w' B tb (some mb) (n + 1) (put f s b) Q := by
  have hsQ : s ∉ Q := fun hm => by obtain ⟨c, hc⟩ := h.known s hm; rw [hf0] at hc; cases hc
  have hcg : ∀ u ∈ Q, f u = put f s b u := fun u hu => by
    unfold put
    have : u ≠ s := fun e => hsQ (e ▸ hu)
    rw [if_neg this]
  refine ⟨h.hB, ?_, ?_, ?_, h.nodup, ?_⟩
  · rw [htb, tokC_congr hcg]
  · refine .inr ⟨mb, _, rfl, hmb, hown, fun t => ?_⟩
    by_cases e : t = s
    · subst e
      rw [atKey_put_same hD (key_lit t), has_put_same hD (key_lit t)]
      simp [put]
    · have hk : key t ≠ key s := fun e' => e (key_inj e')
      rw [atKey_put_other hk, has_put_other hk]
      simp only [put, if_neg e]
      exact hf t
  · intro t c ht
    unfold put at ht
    by_cases e : t = s
    · subst e
      rw [if_pos rfl] at ht; cases ht
      refine ⟨?_, ?_⟩
      · have := h.hB
        have := lt_of_block h.cells
        omega
      · rw [hnew, entC_out hsQ]
    · rw [if_neg e] at ht
      refine ⟨(h.ent t c ht).1, ?_⟩
      rw [hold t c ht, (h.ent t c ht).2, entC_congr hcg]
  · intro t ht
    obtain ⟨c, hc⟩ := h.known t ht
    exact ⟨c, by rw [← hcg t ht]; exact hc⟩

theorem hold29 (h : Tok w B tb mo n f Q) (hs : s.size ≤ maxLen) (hl : Q.length ≤ 4096) (hn : n < 100000) :
    Calls Try.prog 29 #[.pointer (some ⟨tb, 0, none⟩), .string s] w fun e w' => ∃ b mo' f', e = .returned (.pointer (some ⟨b, 0, none⟩)) ∧ Tok w' B tb mo' (n + 1) f' (sans Q s) ∧ Held w f f' mo mo' s b ∧ Fr B tb mo f w w' := by
  have hlk := h.look_ok hs
  obtain ⟨t0, t1, t2, t3, t4⟩ := h.tokCells
  have zt := frozen_of h.cells
  have hts := lt_of_block h.cells
  have hBt := h.hB
  cases hb : f s with
  | some b =>
    rw [hb] at hlk
    obtain ⟨c0, c1, c3, c4, c5⟩ := h.entCells hb
    have hheld : Held w f f mo mo s b := ⟨hb, fun _ _ => rfl, fun c hc => by rw [hb] at hc; cases hc; rfl, .inl hb, .inl rfl⟩
    by_cases hq : s ∈ Q
    · rw [isIn_true.2 hq] at c3
      refine (hold_free tb b s mo w _ t0 hlk c3 (unlink35 h hq hb hl)).mono ?_
      rintro e w' ⟨rfl, hT, hF⟩
      exact ⟨b, mo, f, rfl, hT.mono (Nat.le_succ _), hheld, hF⟩
    · rw [isIn_false.2 hq] at c3
      refine (hold_held tb b s mo w t0 hlk c3).mono ?_
      rintro e w' ⟨rfl, rfl⟩
      exact ⟨b, mo, f, rfl, by rw [sans_not_mem hq]; exact h.mono (Nat.le_succ _), hheld, Fr.refl _ _ _ _ _⟩
  | none =>
    rw [hb] at hlk
    have hsQ : s ∉ Q := fun hm => by obtain ⟨c, hc⟩ := h.known s hm; rw [hb] at hc; cases hc
    rw [sans_not_mem hsQ]
    rcases h.map with ⟨rfl, hf⟩ | ⟨mb, D, rfl, hmb, hown, hf⟩
    · refine (hold_make tb s w hs hts t0 t4 zt hlk).mono ?_
      rintro e w' ⟨rfl, hown', hg⟩
      have hsz : ((w.setCell ⟨tb, 0, none⟩ (.map (some w.heap.size))).alloc (.map #[] 0)).heap.size = w.heap.size + 1 := by simp
      have hblk : ∀ k, k < w.heap.size → w'.heap[k]? = (w.setCell ⟨tb, 0, none⟩ (.map (some w.heap.size))).heap[k]? := by
        intro k hk
        rw [hg.block k (by simp; omega) (by simp; omega), Below.heap_alloc _ _ _ (by rw [hsz]; omega), Below.heap_alloc _ _ _ (by rw [size_set]; omega)]
      have hnew : w'.heap[w.heap.size + 1]? = some (.cells #[.string s, .int .u64 0, .int .u64 0, .bool false, .pointer none, .pointer none] 56 (0, 0)) := by
        rw [hg.block _ (by simp) (by simp)]
        have := (MapKept.heap_alloc ((w.setCell ⟨tb, 0, none⟩ (.map (some w.heap.size))).alloc (.map #[] 0)) (.cells #[.string s, .int .u64 0, .int .u64 0, .bool false, .pointer none, .pointer none] 56)).1
        rw [hsz] at this
        exact this
      have hT := h.laid (w' := w') (mb := w.heap.size) (b := w.heap.size + 1) (D := .map []) hb isMap_empty (fun t => by rw [hf t]; exact ⟨rfl, rfl⟩) (by omega) (by omega) (hown'.mono (by omega)) (by
          rw [hblk tb hts, heap_set, if_pos rfl, h.cells]
          rfl) hnew (fun t c ht => by rw [hf t] at ht; cases ht)
      refine ⟨_, _, _, rfl, hT, ⟨by simp [put], fun t ht => by simp [put, ht], fun c hc => by (rw [hb] at hc; cases hc), .inr (by omega), .inr ⟨_, rfl, Nat.le_refl _⟩⟩, ⟨⟨hg.os, hg.tape, hg.output, ?_, ?_⟩, ?_⟩⟩
      · have := hg.size
        simp at this
        omega
      · intro k hk
        rw [hblk k (by omega), heap_set, if_neg (by omega)]
      · intro k o hk ha
        rw [hblk k (lt_of_block hk), heap_set, if_neg ha.1]
        exact hk
    · have hmt : mb ≠ tb := by
        rintro rfl
        obtain ⟨es, clock, hb', _⟩ := hown
        rw [h.cells] at hb'
        cases hb'
      have hml := hown.lt
      have hme : ∀ t c, f t = some c → c ≠ mb := by
        rintro t c ht rfl
        obtain ⟨es, clock, hb', _⟩ := hown
        rw [(h.ent t c ht).2] at hb'
        cases hb'
      refine (hold_new tb mb n s D w hs hts (by unfold maxLen; omega) hmt t0 t4 zt hlk hown).mono ?_
      rintro e w' ⟨rfl, hown', hg⟩
      have hblk : ∀ k, k < w.heap.size → k ≠ mb → w'.heap[k]? = w.heap[k]? := by
        intro k hk hne
        rw [hg.block k (by simp; omega) (by simp; exact hne), Below.heap_alloc _ _ _ hk]
      have hnew : w'.heap[w.heap.size]? = some (.cells #[.string s, .int .u64 0, .int .u64 0, .bool false, .pointer none, .pointer none] 56 (0, 0)) := by
        rw [hg.block _ (by simp) (by simp; omega)]
        exact (MapKept.heap_alloc w _).1
      have hT := h.laid (w' := w') (mb := mb) (b := w.heap.size) (D := D) hb hown.isMap hf hmb (Nat.le_refl _) hown' (by rw [hblk tb hts hmt.symm]; exact h.cells) hnew
        (fun t c ht => hblk c (lt_of_block (h.ent t c ht).2) (hme t c ht))
      refine ⟨_, _, _, rfl, hT, ⟨by simp [put], fun t ht => by simp [put, ht], fun c hc => by (rw [hb] at hc; cases hc), .inr (Nat.le_refl _), .inl rfl⟩, ⟨⟨hg.os, hg.tape, hg.output, ?_, ?_⟩, ?_⟩⟩
      · have := hg.size
        simp at this
        omega
      · intro k hk
        exact hblk k (by omega) (by omega)
      · intro k o hk ha
        rw [hblk k (lt_of_block hk) (fun e => ha.2.1 (by rw [e]))]
        exact hk

/-! ### the shims -/
theorem hold12 (h : Tok w B tb mo n f Q) (hs : s.size ≤ maxLen) (hl : Q.length ≤ 4096) (hn : n < 100000) :
    Calls Try.prog 12 #[.pointer (some ⟨tb, 0, none⟩), .string s] w fun e w' => ∃ b mo' f', e = .returned (.pointer (some ⟨b, 0, none⟩)) ∧ Tok w' B tb mo' (n + 1) f' (sans Q s) ∧ Held w f f' mo mo' s b ∧ Fr B tb mo f w w' := by
  have hH := hold29 h hs hl hn
  have H : Hid (Calls Try.prog 29 #[.pointer (some ⟨tb, 0, none⟩), .string s] w fun e w' => ∃ b mo' f', e = .returned (.pointer (some ⟨b, 0, none⟩)) ∧ Tok w' B tb mo' (n + 1) f' (sans Q s) ∧ Held w f f' mo mo' s b ∧ Fr B tb mo f w w') := hH
  clear hH h
  go_enter Try.func12, Try.ntmps12
  go_wp2_with (go_at_call 29; refine H.out.mono ?_; rintro e w' ⟨b, mo', f', rfl, hT, hH, hF⟩)
  go_ret
  exact ⟨b, mo', f', rfl, hT, hH, hF⟩

theorem free14 (h : Tok w B tb mo n f Q) (hs : s.size ≤ maxLen) (hl : Q.length ≤ 4096) :
    Calls Try.prog 14 #[.pointer (some ⟨tb, 0, none⟩), .string s] w fun e w' => e = .returned (.tuple #[]) ∧ Tok w' B tb mo n f (freeQ f Q s) ∧ Fr B tb mo f w w' := by
  have H : Hid (Calls Try.prog 30 #[.pointer (some ⟨tb, 0, none⟩), .string s] w fun e w' => e = .returned (.tuple #[]) ∧ Tok w' B tb mo n f (freeQ f Q s) ∧ Fr B tb mo f w w') := free30 h hs hl
  clear h
  go_enter Try.func14, Try.ntmps14
  go_wp2_with (go_at_call 30; refine H.out.mono ?_; rintro e w' ⟨rfl, hT, hF⟩)
  go_end0
  exact ⟨rfl, hT, hF⟩

theorem unlink26 {b : Nat} (h : Tok w B tb mo n f Q) (hs : s ∈ Q) (hb : f s = some b) (hl : Q.length ≤ 4096) :
    Calls Try.prog 26 #[.pointer (some ⟨tb, 0, none⟩), .pointer (some ⟨b, 0, none⟩)] w fun e w' => e = .returned (.tuple #[]) ∧ Tok w' B tb mo n f (sans Q s) ∧ Fr B tb mo f w w' := by
  have H : Hid (Calls Try.prog 35 #[.pointer (some ⟨tb, 0, none⟩), .pointer (some ⟨b, 0, none⟩)] w fun e w' => e = .returned (.tuple #[]) ∧ Tok w' B tb mo n f (sans Q s) ∧ Fr B tb mo f w w') := unlink35 h hs hb hl
  clear h hb
  go_enter Try.func26, Try.ntmps26
  go_wp2_with (go_at_call 35; refine H.out.mono ?_; rintro e w' ⟨rfl, hT, hF⟩)
  go_end0
  exact ⟨rfl, hT, hF⟩

theorem entry18 (h : Tok w B tb mo n f Q) (hs : s.size ≤ maxLen) :
    Calls Try.prog 18 #[.pointer (some ⟨tb, 0, none⟩), .string s] w fun e w' => e = .returned (ptr (f s)) ∧ w' = w := by
  have hlk := h.look hs
  obtain ⟨t0, _⟩ := h.tokCells
  clear h hs
  generalize f s = o at hlk
  obtain ⟨q, hq⟩ := ptr_pointer o
  rw [hq] at hlk ⊢
  clear hq
  go_enter Try.func18, Try.ntmps18
  go_wp2
  go_ret
  exact ⟨rfl, rfl⟩
end Go.Proofs.Qxb6001032a
