/- unlink: what it makes of the Tokens. -/
import Derived.Test.Qxb6001032aUnl
namespace Go.Proofs.Qxb6001032a
open Go.RowKit Go.Maps
set_option linter.unusedVariables false

def upd (o : Nat) (v : Value) : Obj → Obj
  | .cells c e z => .cells (c.setIfInBounds o v) e z
  | x => x

theorem heap_set (w : World) (b o : Nat) (v : Value) (k : Nat) : (w.setCell ⟨b, o, none⟩ v).heap[k]? = if k = b then (w.heap[k]?).map (upd o v) else w.heap[k]? := by
  by_cases h : k = b
  · subst h
    rw [if_pos rfl]
    simp only [World.setCell, Array.getElem?_modify, if_pos]
    cases w.heap[k]? with
    | none => rfl
    | some x => cases x <;> rfl
  · rw [if_neg h]
    exact heap_set_other h _ _

theorem heap_drew (w : World) (k : Nat) : w.drew.heap[k]? = w.heap[k]? := rfl

theorem size_set (w : World) (a : Addr) (v : Value) : (w.setCell a v).heap.size = w.heap.size := by simp [World.setCell]

/-- Nothing but cells of old blocks has turned. -/
structure Same (w w' : World) : Prop where
  os : w'.os = w.os
  tape : w'.tape = w.tape
  output : w'.output = w.output
  size : w'.heap.size = w.heap.size

theorem Same.refl (w : World) : Same w w := ⟨rfl, rfl, rfl, rfl⟩
theorem Same.set {w w' : World} (h : Same w w') (a : Addr) (v : Value) : Same w (w'.setCell a v) := ⟨h.os, h.tape, h.output, (size_set _ _ _).trans h.size⟩
theorem Same.drew {w w' : World} (h : Same w w') : Same w w'.drew := ⟨h.os, h.tape, h.output, h.size⟩

/-- Blocks of the Tokens alone have turned: it is one again, with the queue Q'. -/
theorem Tok.turned {w w' : World} {B tb : Nat} {mo : Option Nat} {n : Nat} {f : ByteArray → Option Nat} {Q Q' : List ByteArray} (h : Tok w B tb mo n f Q)
    (hsame : Same w w')
    (hcells : w'.heap[tb]? = some (.cells (tokC f Q' mo) 32 (0, 0))) (hent : ∀ t c, f t = some c → w'.heap[c]? = some (.cells (entC f Q' t) 56 (0, 0)))
    (hother : ∀ k, k ≠ tb → (∀ t, f t ≠ some k) → w'.heap[k]? = w.heap[k]?) (hn : Q'.Nodup) (hk : ∀ t ∈ Q', ∃ b, f t = some b) :
    Tok w' B tb mo n f Q' ∧ Fr B tb mo f w w' := by
  refine ⟨⟨h.hB, hcells, ?_, fun t c ht => ⟨(h.ent t c ht).1, hent t c ht⟩, hn, hk⟩, ⟨⟨hsame.os, hsame.tape, hsame.output, by rw [hsame.size]; exact Nat.le_refl _, ?_⟩, ?_⟩⟩
  · refine h.map.kept ?_
    rintro mb rfl
    rcases h.map with ⟨h0, _⟩ | ⟨mb', D, h0, _, hm, _⟩
    · cases h0
    · cases h0
      obtain ⟨es, clock, hb, _⟩ := hm
      refine hother mb ?_ ?_
      · rintro rfl
        rw [h.cells] at hb
        cases hb
      · intro t ht
        rw [(h.ent t mb ht).2] at hb
        cases hb
  · intro k hk
    have := h.hB
    refine hother k (by omega) ?_
    intro t ht
    have := (h.ent t k ht).1
    omega
  · intro k o hk ha
    rw [hother k ha.1 ha.2.2]
    exact hk


/-- What the four ways of unlink leave, block by block. -/
structure Unl (w w' : World) (tb b : Nat) (f : ByteArray → Option Nat) (l1 l2 : List ByteArray) (mo : Option Nat) (s : ByteArray) : Prop where
  same : Same w w'
  tok : w'.heap[tb]? = some (.cells (tokC f (l1 ++ l2) mo) 32 (0, 0))
  own : w'.heap[b]? = some (.cells (entC f (l1 ++ l2) s) 56 (0, 0))
  prev : ∀ p c, l1.getLast? = some p → f p = some c → w'.heap[c]? = some (.cells ((entC f (l1 ++ s :: l2) p).setIfInBounds 5 (ptr (l2.head?.bind f))) 56 (0, 0))
  next : ∀ p c, l2.head? = some p → f p = some c → w'.heap[c]? = some (.cells ((entC f (l1 ++ s :: l2) p).setIfInBounds 4 (ptr (l1.getLast?.bind f))) 56 (0, 0))
  other : ∀ k, k ≠ tb → k ≠ b → (∀ p, l1.getLast? = some p → f p ≠ some k) → (∀ p, l2.head? = some p → f p ≠ some k) → w'.heap[k]? = w.heap[k]?

theorem Tok.unlinked {w w' : World} {B tb : Nat} {mo : Option Nat} {n : Nat} {f : ByteArray → Option Nat} {l1 l2 : List ByteArray} {s : ByteArray} {b : Nat} (h : Tok w B tb mo n f (l1 ++ s :: l2)) (hb : f s = some b)
    (h1 : s ∉ l1) (h2 : s ∉ l2) (u : Unl w w' tb b f l1 l2 mo s) : Tok w' B tb mo n f (sans (l1 ++ s :: l2) s) ∧ Fr B tb mo f w w' := by
  have hnd := h.nodup
  have hnd' := nodup_sans (s := s) hnd
  rw [sans_split h1 h2] at hnd' ⊢
  have hkn : ∀ t ∈ l1 ++ l2, ∃ b, f t = some b := fun t ht => h.known t (by simp at ht ⊢; rcases ht with ht | ht <;> simp [ht])
  refine h.turned u.same u.tok ?_ ?_ hnd' hkn
  · intro t c ht
    by_cases e : t = s
    · subst e
      rw [hb] at ht; cases ht
      exact u.own
    by_cases e1 : l1.getLast? = some t
    · rw [u.prev t c e1 ht]
      obtain ⟨l1', rfl⟩ : ∃ l1', l1 = l1' ++ [t] := by
        rcases List.eq_nil_or_concat l1 with rfl | ⟨l1', p, rfl⟩
        · simp at e1
        · simp at e1; subst e1; exact ⟨l1', by simp⟩
      have hd := List.nodup_append.1 hnd'
      have hd1 := List.nodup_append.1 hd.1
      rw [← entC_prev (fun hm => hd1.2.2 t hm t (by simp) rfl) (fun hm => hd.2.2 t (by simp) t hm rfl) e]
    by_cases e2 : l2.head? = some t
    · rw [u.next t c e2 ht]
      obtain ⟨l2', rfl⟩ : ∃ l2', l2 = t :: l2' := by
        rcases l2 with _ | ⟨p, l2'⟩
        · simp at e2
        · simp at e2; subst e2; exact ⟨l2', rfl⟩
      have hd := List.nodup_append.1 hnd'
      rw [← entC_next (fun hm => hd.2.2 t hm t (by simp) rfl) (List.nodup_cons.1 hd.2.1).1 e]
    · rw [u.other c (h.ne_tb ht) (fun e' => e (h.inj ht (e' ▸ hb))) (fun p hp hp' => e1 (by rw [hp, h.inj hp' ht])) (fun p hp hp' => e2 (by rw [hp, h.inj hp' ht])), (h.ent t c ht).2, entC_other e e1 e2]
  · intro k hk hk'
    exact u.other k hk (fun e => hk' s (e ▸ hb)) (fun p _ => hk' p) (fun p _ => hk' p)
end Go.Proofs.Qxb6001032a
