/- countRun's MEMORY: which block holds what. No walk. -/
import Derived.Test.Qxb6001285aProg
import Derived.Test.Qxb6001285aPlain
import Derived.WalkKit
import Derived.WalkSpells
import Derived.WalkLawsBesides
namespace Go.Proofs.Qxb6001285a
open Go.RowKit
set_option linter.unusedVariables false

theorem rcell {w : World} {b : Nat} {cs : Array Value} {e : TypeId} (h : w.heap[b]? = some (.cells cs e (0, 0))) (i : Nat) : w.cell? ⟨b, i, none⟩ = cs[i]? := by simp [World.cell?, h]
theorem rfree {w : World} {b : Nat} {cs : Array Value} {e : TypeId} (h : w.heap[b]? = some (.cells cs e (0, 0))) (i : Nat) : w.frozen? ⟨b, i, none⟩ = false := by simp [World.frozen?, h]

/-- Block g is a row of n integers f 0, f 1 .. -/
def IntRow (w : World) (g e n : Nat) (k : IntKind) (f : Nat → Int) : Prop := ∃ cur, w.heap[g]? = some (.cells cur e (0, 0)) ∧ cur.size = n ∧ ∀ i, i < n → cur[i]? = some (.int k (f i))

/-- Block g is a row of n cells. -/
def RowLen (w : World) (g e n : Nat) : Prop := ∃ cur, w.heap[g]? = some (.cells cur e (0, 0)) ∧ cur.size = n

variable {w w' : World} {g e n : Nat} {k : IntKind} {f : Nat → Int}

theorem IntRow.row (h : IntRow w g e n k f) : RowLen w g e n := by
  obtain ⟨cur, hh, hs, _⟩ := h
  exact ⟨cur, hh, hs⟩
theorem RowLen.tag {e' n' : Nat} (h : RowLen w g e n) {g' : Nat} (h' : RowLen w g' e' n') (hne : e ≠ e') : g ≠ g' := by
  rintro rfl
  obtain ⟨cur, hh, _⟩ := h
  obtain ⟨cur', hh', _⟩ := h'
  rw [hh] at hh'
  simp at hh'
  exact hne hh'.2
theorem RowLen.kept (h : RowLen w g e n) (hk : w'.heap[g]? = w.heap[g]?) : RowLen w' g e n := by
  obtain ⟨cur, hh, r⟩ := h
  exact ⟨cur, hk.trans hh, r⟩
theorem RowLen.lt (h : RowLen w g e n) : g < w.heap.size := by
  obtain ⟨cur, hh, r⟩ := h
  exact lt_of_block hh

theorem IntRow.cell (h : IntRow w g e n k f) {i : Nat} (hi : i < n) : w.cell? ⟨g, i, none⟩ = some (.int k (f i)) := by
  obtain ⟨cur, hh, _, hc⟩ := h
  rw [rcell hh, hc i hi]
theorem IntRow.free (h : IntRow w g e n k f) (i : Nat) : w.frozen? ⟨g, i, none⟩ = false := by
  obtain ⟨cur, hh, _, hc⟩ := h
  exact rfree hh i
theorem IntRow.kept (h : IntRow w g e n k f) (hk : w'.heap[g]? = w.heap[g]?) : IntRow w' g e n k f := by
  obtain ⟨cur, hh, r⟩ := h
  exact ⟨cur, hk.trans hh, r⟩
theorem IntRow.lt (h : IntRow w g e n k f) : g < w.heap.size := by
  obtain ⟨cur, hh, r⟩ := h
  exact lt_of_block hh
theorem IntRow.tag {e' n' : Nat} {k' : IntKind} {f' : Nat → Int} (h : IntRow w g e n k f) {g' : Nat} (h' : IntRow w g' e' n' k' f') (hne : e ≠ e') : g ≠ g' := by
  rintro rfl
  obtain ⟨cur, hh, _⟩ := h
  obtain ⟨cur', hh', _⟩ := h'
  rw [hh] at hh'
  simp at hh'
  exact hne hh'.2

theorem IntRow.congr {f' : Nat → Int} (h : IntRow w g e n k f) (hf : ∀ i, i < n → f i = f' i) : IntRow w g e n k f' := by
  obtain ⟨cur, hh, hs, hc⟩ := h
  exact ⟨cur, hh, hs, fun i hi => by rw [hc i hi, hf i hi]⟩

/-- f with z at place i. -/
def upd (f : Nat → Int) (i : Nat) (z : Int) (j : Nat) : Int := if j = i then z else f j

theorem hset_same {b : Nat} {cs : Array Value} {e : TypeId} {z : Nat × Nat} (h : w.heap[b]? = some (.cells cs e z)) (o : Nat) (v : Value) :
    (w.setCell ⟨b, o, none⟩ v).heap[b]? = some (.cells (cs.setIfInBounds o v) e z) := by
  simp [World.setCell, Array.getElem?_modify, h]
theorem hset_other {b j : Nat} (h : j ≠ b) (o : Nat) (v : Value) : (w.setCell ⟨b, o, none⟩ v).heap[j]? = w.heap[j]? := Below.heap_setCell _ _ _ _ h

theorem IntRow.set (h : IntRow w g e n k f) (i : Nat) (z : Int) : IntRow (w.setCell ⟨g, i, none⟩ (.int k z)) g e n k (upd f i z) := by
  obtain ⟨cur, hh, hs, hc⟩ := h
  refine ⟨_, hset_same hh i _, by simpa using hs, fun j hj => ?_⟩
  rw [Array.getElem?_setIfInBounds]
  unfold upd
  by_cases e : i = j
  · subst e
    rw [if_pos rfl, if_pos (by omega), if_pos rfl]
  · rw [if_neg e, if_neg (fun e' => e e'.symm), hc j hj]

/-- The blocks of a count. -/
structure Ids where
  cb : Nat
  ga : Nat
  gr : Nat
  gb : Nat
  gm : Nat
  gt : Nat

/-- An atLeastCount in memory: the amounts' memories are mem, the GPUs' ranks are rank, byMemory holds bm. -/
structure CR (w0 : World) (B : Nat) (w : World) (I : Ids) (n d : Nat) (mem rank : Nat → Int) (bm : Nat → Nat) : Prop where
  c : w.heap[I.cb]? = some (.cells #[.slice none 0 0, .slice none 0 0, .slice (some ⟨I.ga, 0, none⟩) n n, .slice none 0 0, .slice (some ⟨I.gr, 0, none⟩) n n, .slice (some ⟨I.gb, 0, none⟩) n n, .slice (some ⟨I.gm, 0, none⟩) n n, .slice (some ⟨I.gt, 0, none⟩) d d] 49 (0, 0))
  a : ∃ f, IntRow w I.ga 53 (n * 6) .i64 f ∧ ∀ i, i < n → f (i * 6 + 1) = mem i
  r : IntRow w I.gr 21 n .i32 rank
  b : IntRow w I.gb 21 n .i32 (fun i => (bm i : Int))
  m : RowLen w I.gm 21 n
  t : ∃ f, IntRow w I.gt 2 d .i64 f
  bm_ne : I.gb ≠ I.gm
  br_ne : I.gb ≠ I.gr
  mr_ne : I.gm ≠ I.gr
  ha : B ≤ I.ga
  hb : B ≤ I.gb
  hm : B ≤ I.gm
  ht : B ≤ I.gt
  rk : ∀ i, i < n → 1 ≤ rank i ∧ rank i < (d : Int)
  hn : n ≤ 4096
  hd : d ≤ 4097
  below : Below B w0 w

section
variable {w0 : World} {B d : Nat} {I : Ids} {mem rank : Nat → Int} {bm : Nat → Nat}

theorem CR.cf (h : CR w0 B w I n d mem rank bm) : w.cell? ⟨I.cb, 2, none⟩ = some (.slice (some ⟨I.ga, 0, none⟩) n n) ∧ w.cell? ⟨I.cb, 4, none⟩ = some (.slice (some ⟨I.gr, 0, none⟩) n n) ∧ w.cell? ⟨I.cb, 5, none⟩ = some (.slice (some ⟨I.gb, 0, none⟩) n n) ∧
    w.cell? ⟨I.cb, 6, none⟩ = some (.slice (some ⟨I.gm, 0, none⟩) n n) ∧ w.cell? ⟨I.cb, 7, none⟩ = some (.slice (some ⟨I.gt, 0, none⟩) d d) :=
  ⟨rcell h.c 2, rcell h.c 4, rcell h.c 5, rcell h.c 6, rcell h.c 7⟩

theorem IntRow.ne_c (h : CR w0 B w I n d mem rank bm) {g e n' : Nat} {k : IntKind} {f : Nat → Int} (hr : IntRow w g e n' k f) (he : e ≠ 49) : g ≠ I.cb := by
  rintro rfl
  obtain ⟨cur, hh, _⟩ := hr
  have := h.c
  rw [hh] at this
  simp at this
  exact he this.2

/-- A store into the tree. -/
theorem CR.setT (h : CR w0 B w I n d mem rank bm) (i : Nat) (z : Int) : CR w0 B (w.setCell ⟨I.gt, i, none⟩ (.int .i64 z)) I n d mem rank bm := by
  obtain ⟨ft, hft⟩ := h.t
  obtain ⟨fa, hfa, hfm⟩ := h.a
  have hfm' := h.m
  exact ⟨by rw [hset_other (hft.ne_c h (by decide)).symm]; exact h.c, ⟨fa, hfa.kept (hset_other (hfa.tag hft (by decide)) _ _), hfm⟩, h.r.kept (hset_other (h.r.tag hft (by decide)) _ _), h.b.kept (hset_other (h.b.tag hft (by decide)) _ _),
    hfm'.kept (hset_other (hfm'.tag hft.row (by decide)) _ _), ⟨_, hft.set i z⟩, h.bm_ne, h.br_ne, h.mr_ne, h.ha, h.hb, h.hm, h.ht, h.rk, h.hn, h.hd, h.below.setCell h.ht _⟩

/-- A store into an amount's cell that is no memory. -/
theorem CR.setA (h : CR w0 B w I n d mem rank bm) (i : Nat) (z : Int) (hi : ∀ j, i ≠ j * 6 + 1) : CR w0 B (w.setCell ⟨I.ga, i, none⟩ (.int .i64 z)) I n d mem rank bm := by
  obtain ⟨ft, hft⟩ := h.t
  obtain ⟨fa, hfa, hfm⟩ := h.a
  have hfm' := h.m
  exact ⟨by rw [hset_other (hfa.ne_c h (by decide)).symm]; exact h.c, ⟨_, hfa.set i z, fun j hj => by unfold upd; rw [if_neg (fun e => hi j e.symm)]; exact hfm j hj⟩, h.r.kept (hset_other (h.r.tag hfa (by decide)) _ _), h.b.kept (hset_other (h.b.tag hfa (by decide)) _ _),
    hfm'.kept (hset_other (hfm'.tag hfa.row (by decide)) _ _), ⟨_, hft.kept (hset_other (hft.tag hfa (by decide)) _ _)⟩, h.bm_ne, h.br_ne, h.mr_ne, h.ha, h.hb, h.hm, h.ht, h.rk, h.hn, h.hd, h.below.setCell h.ha _⟩

/-- bm with v at place i. -/
def updN (f : Nat → Nat) (i v : Nat) (j : Nat) : Nat := if j = i then v else f j

/-- A store into byMemory. -/
theorem CR.setB (h : CR w0 B w I n d mem rank bm) (i v : Nat) : CR w0 B (w.setCell ⟨I.gb, i, none⟩ (.int .i32 (v : Int))) I n d mem rank (updN bm i v) := by
  obtain ⟨ft, hft⟩ := h.t
  obtain ⟨fa, hfa, hfm⟩ := h.a
  have hfm' := h.m
  refine ⟨by rw [hset_other (h.b.ne_c h (by decide)).symm]; exact h.c, ⟨fa, hfa.kept (hset_other (hfa.tag h.b (by decide)) _ _), hfm⟩, h.r.kept (hset_other h.br_ne.symm _ _), (h.b.set i v).congr ?_,
    hfm'.kept (hset_other h.bm_ne.symm _ _), ⟨_, hft.kept (hset_other (hft.tag h.b (by decide)) _ _)⟩, h.bm_ne, h.br_ne, h.mr_ne, h.ha, h.hb, h.hm, h.ht, h.rk, h.hn, h.hd, h.below.setCell h.hb _⟩
  intro j _
  unfold upd updN
  by_cases e : j = i <;> simp [e]

/-- Whatever leaves the heap as it was. -/
theorem CR.same (h : CR w0 B w I n d mem rank bm) (hb : Below w.heap.size w w') : CR w0 B w' I n d mem rank bm := by
  obtain ⟨ft, hft⟩ := h.t
  obtain ⟨fa, hfa, hfm⟩ := h.a
  have hfm' := h.m
  have hsz : B ≤ w.heap.size := Nat.le_trans h.hb (Nat.le_of_lt h.b.lt)
  exact ⟨(hb.block _ (lt_of_block h.c)).trans h.c, ⟨fa, hfa.kept (hb.block _ hfa.lt), hfm⟩, h.r.kept (hb.block _ h.r.lt), h.b.kept (hb.block _ h.b.lt), hfm'.kept (hb.block _ hfm'.lt), ⟨_, hft.kept (hb.block _ hft.lt)⟩,
    h.bm_ne, h.br_ne, h.mr_ne, h.ha, h.hb, h.hm, h.ht, h.rk, h.hn, h.hd, h.below.trans (hb.mono hsz)⟩

theorem below_drewN (w : World) (m : Nat) : Below w.heap.size w (w.drewN m) := ⟨rfl, rfl, rfl, Nat.le_refl _, fun _ _ => rfl⟩
end
end Go.Proofs.Qxb6001285a
