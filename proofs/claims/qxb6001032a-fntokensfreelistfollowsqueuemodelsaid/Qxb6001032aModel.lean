/- THE QUEUE MODEL's STATE: a Tokens, a row of strings, a map of bools; what each step keeps. No walk. -/
import Derived.Test.Qxb6001032aArgs
namespace Go.Proofs.Qxb6001032a
open Go.RowKit Go.Maps
set_option linter.unusedVariables false

theorem zero4 (w : World) : (zeroValue 4).run Try.prog w = .ok (.bool false) w := by kernel_rfl

def boolElem : Value → Option (DataW Unit × List MemPlace)
  | .bool x => some (.lit (.bool x), [])
  | _ => none

/-- Block mk is a map that says true of just the names that f knows. -/
def KnownAt (w : World) (mk n : Nat) (D : DataW Unit) (f : ByteArray → Option Nat) : Prop :=
  w.ownsMap Try.prog 9 boolElem mk n D ∧ ∀ s, D.atKey (key s) (.lit (.bool false)) = .lit (.bool (f s).isSome)

theorem boolElem_mk (x : Bool) : boolElem (.bool x) = some (.lit (.bool x), []) := rfl

theorem boolElem_inv {v : Value} {x : Bool} {ps : List MemPlace} (h : boolElem v = some (.lit (.bool x), ps)) : v = .bool x := by
  cases v <;> simp [boolElem] at h
  rw [h.1]

variable {w w' : World} {B tb mk n k : Nat} {mo mo' : Option Nat} {f f' : ByteArray → Option Nat} {Q Q' rs : List ByteArray} {s : ByteArray} {D : DataW Unit} {v v' : Value}

theorem KnownAt.look (h : KnownAt w mk n D f) (hs : s.size ≤ maxLen) : (Instr.lookup 33 (.map (some mk)) (.string s) false).run Try.prog w = .ok (.bool (f s).isSome) w := by
  obtain ⟨v, ps, hrun, hv⟩ := h.1.lookup law Try.underlying33 (zero4 w) (boolElem_mk false) (key_ok hs)
  rw [h.2 s] at hv
  rw [hrun, boolElem_inv hv]

theorem KnownAt.kept (h : KnownAt w mk n D f) (hk : w'.heap[mk]? = w.heap[mk]?) : KnownAt w' mk n D f := by
  obtain ⟨⟨es, clock, hb, r⟩, hD⟩ := h
  exact ⟨⟨es, clock, hk.trans hb, r⟩, hD⟩

theorem KnownAt.mono (h : KnownAt w mk n D f) (hk : n ≤ k) : KnownAt w mk k D f := ⟨h.1.mono hk, h.2⟩

theorem KnownAt.block (h : KnownAt w mk n D f) : ∃ es clock, w.heap[mk]? = some (.map es clock) := by
  obtain ⟨⟨es, clock, hb, r⟩, hD⟩ := h
  exact ⟨es, clock, hb⟩

theorem KnownAt.put {b : Nat} (h : KnownAt w mk n D f) (hm : w'.ownsMap Try.prog 9 boolElem mk (n + 1) (D.put (key s) (.lit (.bool true)))) (ho : ∀ t, t ≠ s → f' t = f t) (hf : f' s = some b) : KnownAt w' mk (n + 1) (D.put (key s) (.lit (.bool true))) f' := by
  refine ⟨hm, fun t => ?_⟩
  by_cases e : t = s
  · subst e
    rw [atKey_put_same h.1.isMap (key_lit t), hf]
    rfl
  · rw [atKey_put_other (fun e' => e (key_inj e')), h.2 t, ho t e]

theorem Apart.held {b : Nat} (h : Apart tb mo f mk) (hlt : mk < w.heap.size) (hH : Held w f f' mo mo' s b) : Apart tb mo' f' mk := by
  refine ⟨h.1, ?_, ?_⟩
  · rcases hH.map with e | ⟨k, e, hk⟩
    · rw [e]; exact h.2.1
    · rw [e]; simp; omega
  · intro t ht
    by_cases e : t = s
    · subst e
      rw [hH.own] at ht
      cases ht
      rcases hH.new with h' | h'
      · exact h.2.2 t h'
      · omega
    · rw [hH.other t e] at ht
      exact h.2.2 t ht

/-- Another map is written: nothing of the Tokens turns. -/
theorem Tok.other (h : Tok w B tb mo n f Q) (hg : w.grownBy w' (some mk)) (ha : Apart tb mo f mk) : Tok w' B tb mo n f Q := by
  have hk : ∀ k o, w.heap[k]? = some o → k ≠ mk → w'.heap[k]? = some o := fun k o ho hne => (hg.block k (lt_of_block ho) (by simp; exact hne)).trans ho
  refine ⟨h.hB, hk _ _ h.cells (fun e => ha.1 e.symm), ?_, ?_, h.nodup, h.known⟩
  · refine h.map.kept ?_
    rintro mb rfl
    rcases h.map with ⟨h0, _⟩ | ⟨mb', D, h0, _, hm, _⟩
    · cases h0
    · cases h0
      obtain ⟨es, clock, hb, _⟩ := hm
      rw [hb, hk _ _ hb (fun e => ha.2.1 (by rw [e]))]
  · intro s b hs
    obtain ⟨h1, h2⟩ := h.ent s b hs
    exact ⟨h1, hk _ _ h2 (fun e => ha.2.2 s (by rw [hs, e]))⟩

theorem owns_other {base : Nat} {xs : List Value} (h : w.ownsRow base 9 1 v k xs) (hg : w.grownBy w' (some mk)) (hm : ∃ es clock, w.heap[mk]? = some (.map es clock)) : w'.ownsRow base 9 1 v k xs := by
  obtain ⟨h1, h2⟩ := h
  refine ⟨h1, ?_⟩
  rcases h2 with h2 | ⟨g, cap, cur, hv, hgb, hh, r⟩
  · exact .inl h2
  · refine .inr ⟨g, cap, cur, hv, hgb, (hg.block g (lt_of_block hh) ?_).trans hh, r⟩
    rintro e
    cases e
    obtain ⟨es, clock, hb⟩ := hm
    rw [hh] at hb
    cases hb

theorem owns_base {base base' : Nat} {xs : List Value} (h : w.ownsRow base 9 1 v k xs) (hb : base' ≤ base) : w.ownsRow base' 9 1 v k xs := by
  obtain ⟨h1, h2⟩ := h
  refine ⟨h1, ?_⟩
  rcases h2 with h2 | ⟨g, cap, cur, hv, hgb, r⟩
  · exact .inl h2
  · exact .inr ⟨g, cap, cur, hv, Nat.le_trans hb hgb, r⟩

/-- An append onto an owned row of strings: all that is no row of strings stays. -/
theorem grown_row {base : Nat} {xs : List Value} {o : Obj} (h : w.ownsRow base 9 1 v k xs) (hg : (w.alloc o).grownBy w' v.ownBlock) : ∀ (j : Nat) (x : Obj), w.heap[j]? = some x → ¬ (∃ cs, x = Obj.cells cs 9 (0, 0)) → w'.heap[j]? = some x := by
  intro j x hx hne
  have hj := lt_of_block hx
  rw [hg.block j (by simp; omega) ?_, Below.heap_alloc _ _ _ hj]
  · exact hx
  · intro e
    rcases h.2 with ⟨rfl, _⟩ | ⟨g, cap, cur, rfl, hgb, hh, r⟩
    · cases e
    · cases e
      rw [hx] at hh
      cases hh
      exact hne ⟨_, rfl⟩

/-- The state of the law's loop. -/
structure Model (w : World) (B tb mk : Nat) (mo : Option Nat) (n : Nat) (f : ByteArray → Option Nat) (Q rs : List ByteArray) (D : DataW Unit) (v : Value) : Prop where
  tok : TokIn w B tb mo n f Q rs
  row : w.ownsRow B 9 1 v Q.length (strs Q)
  known : KnownAt w mk n D f
  apart : Apart tb mo f mk
  hmk : B ≤ mk

theorem Model.start (w : World) (rs : List ByteArray) : Model ((w.alloc (.cells #[.map none, .pointer none, .pointer none, .int .i64 0, .int .u64 0] 32)).alloc (.map #[] 0)) w.heap.size w.heap.size (w.heap.size + 1) none 0 (fun _ => none) [] rs (.map []) (.slice none 0 0) := by
  refine ⟨(tok_init w rs).below ((Below.refl _ _).alloc (Nat.le_refl _) _), World.ownsRow_nil _ _ _ _, ⟨?_, fun s => rfl⟩, ⟨by omega, by simp, fun s => by simp⟩, by omega⟩
  have := World.ownsMap_made (w.alloc (.cells #[.map none, .pointer none, .pointer none, .int .i64 0, .int .u64 0] 32)) Try.prog 9 boolElem
  simpa using this

theorem KnownAt.fr (h : KnownAt w mk n D f) (hF : Fr B tb mo f w w') (ha : Apart tb mo f mk) : KnownAt w' mk n D f := by
  obtain ⟨es, clock, hb⟩ := h.block
  exact h.kept (by rw [hb]; exact hF.block mk _ hb ha)

theorem KnownAt.lt (h : KnownAt w mk n D f) : mk < w.heap.size := by
  obtain ⟨es, clock, hb⟩ := h.block
  exact lt_of_block hb

theorem Model.held {w2 : World} {b : Nat} (h : Model w B tb mk mo n f Q rs D v) (hs : s ∈ rs) (hT : Tok w' B tb mo' (n + 1) f' (sans Q s)) (hH : Held w f f' mo mo' s b) (hF : Fr B tb mo f w w')
    (hm : w2.ownsMap Try.prog 9 boolElem mk (n + 1) (D.put (key s) (.lit (.bool true)))) (hg : w'.grownBy w2 (some mk)) :
    TokIn w2 B tb mo' (n + 1) f' (sans Q s) rs ∧ w2.ownsRow B 9 1 v Q.length (strs Q) ∧ KnownAt w2 mk (n + 1) (D.put (key s) (.lit (.bool true))) f' ∧ Apart tb mo' f' mk ∧ Below B w w2 := by
  have ha := h.apart.held h.known.lt hH
  have hI := h.tok.held hs hT hH
  have hk := h.known.fr hF h.apart
  refine ⟨⟨hI.tok.other hg ha, hI.mem⟩, owns_other (owns_fr h.tok.tok hF h.row) hg hk.block, hk.put hm hH.other hH.own, ha, hF.below.grown hg ?_ ?_⟩
  · exact hI.hB
  · intro j hj; cases hj; exact h.hmk

theorem Model.without (hI : TokIn w B tb mo n f Q rs) (hk : KnownAt w mk n D f) (ha : Apart tb mo f mk) (hmk : B ≤ mk) (hb : Below w.heap.size w w') (hr : w'.ownsRow w.heap.size 9 1 v Q.length (strs Q)) : Model w' B tb mk mo n f Q rs D v :=
  ⟨hI.below hb, owns_base hr hI.hB, hk.kept (hb.block mk hk.lt), ha, hmk⟩

theorem Model.freed (h : Model w B tb mk mo n f Q rs D v) (hT : Tok w' B tb mo n f Q') (hF : Fr B tb mo f w w') :
    TokIn w' B tb mo n f Q' rs ∧ w'.ownsRow B 9 1 v Q.length (strs Q) ∧ KnownAt w' mk n D f :=
  ⟨⟨hT, h.tok.mem⟩, owns_fr h.tok.tok hF h.row, h.known.fr hF h.apart⟩

theorem Model.still (hI : TokIn w B tb mo n f Q rs) (hr : w.ownsRow B 9 1 v Q.length (strs Q)) (hk : KnownAt w mk n D f) (ha : Apart tb mo f mk) (hmk : B ≤ mk) : Model w B tb mk mo (n + 1) f Q rs D v :=
  ⟨⟨hI.tok.mono (Nat.le_succ _), hI.mem⟩, hr, hk.mono (Nat.le_succ _), ha, hmk⟩

theorem Model.appended {o : Obj} (hI : TokIn w B tb mo n f (Q ++ [s]) rs) (hr : w.ownsRow B 9 1 v Q.length (strs Q)) (hk : KnownAt w mk n D f) (ha : Apart tb mo f mk) (hmk : B ≤ mk)
    (hr' : w'.ownsRow B 9 1 v' (Q.length + 1) (strs Q ++ [.string s])) (hg : (w.alloc o).grownBy w' v.ownBlock) : Model w' B tb mk mo (n + 1) f (Q ++ [s]) rs D v' ∧ Below B w w' := by
  have hrow := grown_row hr hg
  refine ⟨⟨⟨(hI.tok.row hrow).mono (Nat.le_succ _), hI.mem⟩, ?_, ?_, ha, hmk⟩, ((Below.refl B w).alloc hI.hB o).grown hg (by have := hI.hB; simp; omega) (fun j hj => (hr.lt j hj).1)⟩
  · rw [List.length_append, strs, List.map_append]
    exact hr'
  · obtain ⟨es, clock, hb⟩ := hk.block
    refine (hk.kept ?_).mono (Nat.le_succ _)
    rw [hb]
    exact hrow mk _ hb (by rintro ⟨cs, e⟩; cases e)

end Go.Proofs.Qxb6001032a
