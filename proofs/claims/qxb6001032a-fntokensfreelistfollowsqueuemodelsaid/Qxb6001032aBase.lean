/- THE TOKENS' MEMORY: what block holds what (heap blocks, no walk). -/
import Derived.Test.Qxb6001032aProg
import Derived.Test.Qxb6001032aList
import Derived.WalkKit
import Derived.WalkSpells
import Derived.WalkLawsBesides
import Derived.Maps.OwnSet
namespace Go.Proofs.Qxb6001032a
open Go.RowKit Go.Maps

/-- A pointer to the head of block b; nil. -/
def ptr : Option Nat → Value
  | none => .pointer none
  | some b => .pointer (some ⟨b, 0, none⟩)

/-- How an entry's pointer reads as a map's element. -/
def ptrElem : Value → Option (DataW Unit × List MemPlace)
  | .pointer none => some (.nil, [])
  | .pointer (some ⟨b, 0, none⟩) => some (.lit (.int .i64 b), [])
  | _ => none

def dat : Option Nat → DataW Unit
  | none => .nil
  | some b => .lit (.int .i64 b)

theorem ptrElem_ptr (o : Option Nat) : ptrElem (ptr o) = some (dat o, []) := by cases o <;> rfl

theorem ptrElem_inv {v : Value} {o : Option Nat} {ps : List MemPlace} (h : ptrElem v = some (dat o, ps)) : v = ptr o := by
  unfold ptrElem at h
  split at h
  · cases o with
    | none => rfl
    | some b => simp [dat] at h
  · cases o with
    | none => simp [dat] at h
    | some b => simp [dat] at h; obtain ⟨h, _⟩ := h; have h' := Int.ofNat.inj h; subst h'; rfl
  · cases h

def key (s : ByteArray) : Lit := .string s.data.toList

theorem key_inj {s t : ByteArray} (h : key s = key t) : s = t := by
  simp [key] at h
  exact ByteArray.ext h

theorem law : Keyed Try.prog 9 := string_keyed Try.underlying9
theorem zero29 (w : World) : (zeroValue 29).run Try.prog w = .ok (.pointer none) w := by kernel_rfl
theorem key_ok {s : ByteArray} (h : s.size ≤ maxLen) : keyOf Try.prog 9 (.string s) = some (key s) := WideMaps.keyOf_string_mk Try.underlying9 h

/-- The map of the known names. -/
def MapIs (w : World) (B : Nat) (mo : Option Nat) (n : Nat) (f : ByteArray → Option Nat) : Prop :=
  (mo = none ∧ ∀ s, f s = none) ∨
  ∃ mb D, mo = some mb ∧ B ≤ mb ∧ w.ownsMap Try.prog 9 ptrElem mb n D ∧ ∀ s, D.atKey (key s) .nil = dat (f s) ∧ Maps.has D (key s) = (f s).isSome

/-- The cells of a name's entry. -/
def entC (f : ByteArray → Option Nat) (Q : List ByteArray) (s : ByteArray) : Array Value :=
  #[.string s, .int .u64 0, .int .u64 0, .bool (isIn Q s), ptr ((older Q s).bind f), ptr ((newer Q s).bind f)]

/-- The cells of the Tokens. -/
def tokC (f : ByteArray → Option Nat) (Q : List ByteArray) (mo : Option Nat) : Array Value :=
  #[.map mo, ptr (Q.head?.bind f), ptr (Q.getLast?.bind f), .int .i64 Q.length, .int .u64 0]

/-- Block tb holds a Tokens: f says which names are known, and in which block each entry lies; Q: the free ones, the oldest first. -/
structure Tok (w : World) (B tb : Nat) (mo : Option Nat) (n : Nat) (f : ByteArray → Option Nat) (Q : List ByteArray) : Prop where
  hB : B ≤ tb
  cells : w.heap[tb]? = some (.cells (tokC f Q mo) 32 (0, 0))
  map : MapIs w B mo n f
  ent : ∀ s b, f s = some b → B ≤ b ∧ w.heap[b]? = some (.cells (entC f Q s) 56 (0, 0))
  nodup : Q.Nodup
  known : ∀ s ∈ Q, ∃ b, f s = some b

/-! ### blocks and cells -/
theorem heap_set_same {w : World} {b : Nat} {cs : Array Value} {e : TypeId} {z : Nat × Nat} (h : w.heap[b]? = some (.cells cs e z)) (o : Nat) (v : Value) :
    (w.setCell ⟨b, o, none⟩ v).heap[b]? = some (.cells (cs.setIfInBounds o v) e z) := by
  simp [World.setCell, Array.getElem?_modify, h]

theorem heap_set_other {w : World} {b k : Nat} (h : k ≠ b) (o : Nat) (v : Value) : (w.setCell ⟨b, o, none⟩ v).heap[k]? = w.heap[k]? :=
  Below.heap_setCell _ _ _ _ h

theorem cell_of {w : World} {b : Nat} {cs : Array Value} {e : TypeId} (h : w.heap[b]? = some (.cells cs e (0, 0))) (i : Nat) : w.cell? ⟨b, i, none⟩ = cs[i]? := by
  simp [World.cell?, h]

theorem frozen_of {w : World} {b : Nat} {cs : Array Value} {e : TypeId} (h : w.heap[b]? = some (.cells cs e (0, 0))) (i : Nat) : w.frozen? ⟨b, i, none⟩ = false := by
  simp [World.frozen?, h]

/-- Two names' entries lie in two blocks. -/
theorem Tok.inj {w : World} {B tb : Nat} {mo : Option Nat} {n : Nat} {f : ByteArray → Option Nat} {Q : List ByteArray} (h : Tok w B tb mo n f Q) {s t : ByteArray} {b : Nat} (hs : f s = some b) (ht : f t = some b) : s = t := by
  have h1 := (h.ent s b hs).2
  have h2 := (h.ent t b ht).2
  rw [h1] at h2
  simp [entC] at h2
  exact h2.1

theorem Tok.ne_tb {w : World} {B tb : Nat} {mo : Option Nat} {n : Nat} {f : ByteArray → Option Nat} {Q : List ByteArray} (h : Tok w B tb mo n f Q) {s : ByteArray} {b : Nat} (hs : f s = some b) : b ≠ tb := by
  rintro rfl
  have h1 := (h.ent s b hs).2
  rw [h.cells] at h1
  simp at h1

/-- What a block is apart from: none of the Tokens' own. -/
def Apart (tb : Nat) (mo : Option Nat) (f : ByteArray → Option Nat) (k : Nat) : Prop := k ≠ tb ∧ mo ≠ some k ∧ ∀ s, f s ≠ some k

/-- What an operation on the Tokens turns: its own blocks alone. -/
structure Fr (B tb : Nat) (mo : Option Nat) (f : ByteArray → Option Nat) (w w' : World) : Prop where
  below : Below B w w'
  block : ∀ k o, w.heap[k]? = some o → Apart tb mo f k → w'.heap[k]? = some o

theorem Fr.refl (B tb : Nat) (mo : Option Nat) (f : ByteArray → Option Nat) (w : World) : Fr B tb mo f w w := ⟨Below.refl _ _, fun _ _ h _ => h⟩

/-- A row of strings is none of the Tokens' blocks. -/
theorem Tok.apart_row {w : World} {B tb : Nat} {mo : Option Nat} {n : Nat} {f : ByteArray → Option Nat} {Q : List ByteArray} (h : Tok w B tb mo n f Q) {k : Nat} {cs : Array Value} (hk : w.heap[k]? = some (.cells cs 9 (0, 0))) : Apart tb mo f k := by
  refine ⟨?_, ?_, ?_⟩
  · rintro rfl
    rw [h.cells] at hk
    simp at hk
  · rintro rfl
    rcases h.map with ⟨h0, _⟩ | ⟨mb, D, h0, _, hm, _⟩
    · cases h0
    · cases h0
      obtain ⟨es, clock, hb, _⟩ := hm
      rw [hb] at hk
      cases hk
  · intro s hs
    rw [(h.ent s k hs).2] at hk
    simp at hk

/-! ### the Tokens in a later world -/
theorem MapIs.kept {w w' : World} {B : Nat} {mo : Option Nat} {n : Nat} {f : ByteArray → Option Nat} (h : MapIs w B mo n f) (hk : ∀ mb, mo = some mb → w'.heap[mb]? = w.heap[mb]?) : MapIs w' B mo n f := by
  rcases h with h | ⟨mb, D, h0, hB, hm, hf⟩
  · exact .inl h
  · refine .inr ⟨mb, D, h0, hB, ?_, hf⟩
    obtain ⟨es, clock, hb, r⟩ := hm
    exact ⟨es, clock, (hk mb h0).trans hb, r⟩

theorem Tok.below {w w' : World} {B tb : Nat} {mo : Option Nat} {n : Nat} {f : ByteArray → Option Nat} {Q : List ByteArray} (h : Tok w B tb mo n f Q) (hb : Below w.heap.size w w') : Tok w' B tb mo n f Q := by
  refine ⟨h.hB, ?_, ?_, ?_, h.nodup, h.known⟩
  · rw [hb.block tb (lt_of_block h.cells)]; exact h.cells
  · refine h.map.kept ?_
    rintro mb rfl
    rcases h.map with ⟨h0, _⟩ | ⟨mb', D, h0, _, hm, _⟩
    · cases h0
    · cases h0; exact hb.block _ hm.lt
  · intro s b hs
    obtain ⟨h1, h2⟩ := h.ent s b hs
    exact ⟨h1, by rw [hb.block b (lt_of_block h2)]; exact h2⟩

/-- Writes to a row of strings turn nothing of it. -/
theorem Tok.row {w w' : World} {B tb : Nat} {mo : Option Nat} {n : Nat} {f : ByteArray → Option Nat} {Q : List ByteArray} (h : Tok w B tb mo n f Q) (hb : ∀ (k : Nat) (o : Obj), w.heap[k]? = some o → ¬ (∃ cs, o = Obj.cells cs 9 (0, 0)) → w'.heap[k]? = some o) : Tok w' B tb mo n f Q := by
  refine ⟨h.hB, hb _ _ h.cells (by rintro ⟨cs, e⟩; simp at e), ?_, ?_, h.nodup, h.known⟩
  · refine h.map.kept ?_
    rintro mb rfl
    rcases h.map with ⟨h0, _⟩ | ⟨mb', D, h0, _, hm, _⟩
    · cases h0
    · cases h0
      obtain ⟨es, clock, hb', _⟩ := hm
      rw [hb', hb _ _ hb' (by rintro ⟨cs, e⟩; cases e)]
  · intro s b hs
    obtain ⟨h1, h2⟩ := h.ent s b hs
    exact ⟨h1, hb _ _ h2 (by rintro ⟨cs, e⟩; simp at e)⟩

/-! ### what the look-up gives -/
theorem Tok.look_ok {w : World} {B tb : Nat} {mo : Option Nat} {n : Nat} {f : ByteArray → Option Nat} {Q : List ByteArray} (h : Tok w B tb mo n f Q) {s : ByteArray} (hs : s.size ≤ maxLen) :
    (Instr.lookup 28 (.map mo) (.string s) true).run Try.prog w = .ok (.tuple #[ptr (f s), .bool (f s).isSome]) w := by
  rcases h.map with ⟨rfl, hf⟩ | ⟨mb, D, rfl, _, hm, hf⟩
  · have := Maps.look_nil true law Try.underlying28 (zero29 w) (key_ok hs)
    rw [hf s]
    exact this
  · obtain ⟨v, ps, hrun, hv⟩ := hm.look_ok law Try.underlying28 (zero29 w) (zd := .nil) (zp := []) rfl (key_ok hs)
    rw [(hf s).1] at hv
    rw [hrun, ptrElem_inv hv, (hf s).2]

theorem Tok.look {w : World} {B tb : Nat} {mo : Option Nat} {n : Nat} {f : ByteArray → Option Nat} {Q : List ByteArray} (h : Tok w B tb mo n f Q) {s : ByteArray} (hs : s.size ≤ maxLen) :
    (Instr.lookup 28 (.map mo) (.string s) false).run Try.prog w = .ok (ptr (f s)) w := by
  rcases h.map with ⟨rfl, hf⟩ | ⟨mb, D, rfl, _, hm, hf⟩
  · have := Maps.look_nil false law Try.underlying28 (zero29 w) (key_ok hs)
    rw [hf s]
    exact this
  · obtain ⟨v, ps, hrun, hv⟩ := hm.lookup law Try.underlying28 (zero29 w) (zd := .nil) (zp := []) rfl (key_ok hs)
    rw [(hf s).1] at hv
    rw [hrun, ptrElem_inv hv]
end Go.Proofs.Qxb6001032a
