/- countRun: what the merge leaves. No walk. -/
import Derived.Test.Qxb6001285aTree
import Derived.OwnWalk
import Derived.Laws.CopyOwn
namespace Go.Proofs.Qxb6001285a
open Go.RowKit
set_option linter.unusedVariables false

/-- The places lo to hi of byMemory. -/
def seg (bm : Nat → Nat) (lo hi : Nat) : List Nat := (List.range' lo (hi - lo)).map bm

/-- What countRun makes of byMemory. -/
structure Ran (mem : Nat → Int) (bm bm' : Nat → Nat) (lo hi : Nat) : Prop where
  out : ∀ j, j < lo ∨ hi ≤ j → bm' j = bm j
  perm : (seg bm' lo hi).Perm (List.range' lo (hi - lo))
  falls : Falls mem (seg bm' lo hi)

theorem seg_len (bm : Nat → Nat) (lo hi : Nat) : (seg bm lo hi).length = hi - lo := by simp [seg]
theorem seg_at (bm : Nat → Nat) (lo hi i : Nat) (h : i < (seg bm lo hi).length) : (seg bm lo hi)[i] = bm (lo + i) := by simp [seg]

theorem seg_congr {bm bm' : Nat → Nat} {lo hi : Nat} (h : ∀ j, lo ≤ j → j < hi → bm' j = bm j) : seg bm' lo hi = seg bm lo hi := by
  unfold seg
  apply List.map_congr_left
  intro j hj
  rw [List.mem_range'_1] at hj
  exact h j hj.1 (by omega)

theorem Ran.lt {mem : Nat → Int} {bm bm' : Nat → Nat} {lo hi : Nat} (h : Ran mem bm bm' lo hi) {j : Nat} (h1 : lo ≤ j) (h2 : j < hi) : bm' j < hi ∧ lo ≤ bm' j := by
  have : bm' j ∈ List.range' lo (hi - lo) := h.perm.mem_iff.1 (by
    unfold seg
    exact List.mem_map.2 ⟨j, by rw [List.mem_range'_1]; omega, rfl⟩)
  rw [List.mem_range'_1] at this
  omega

theorem ran_one (mem : Nat → Int) (bm : Nat → Nat) (lo : Nat) : Ran mem bm (updN bm lo lo) lo (lo + 1) := by
  have e : seg (updN bm lo lo) lo (lo + 1) = [lo] := by
    unfold seg
    rw [show lo + 1 - lo = 1 by omega]
    simp [List.range', updN]
  refine ⟨fun j hj => ?_, ?_, ?_⟩
  · unfold updN; rw [if_neg (by omega)]
  · rw [e, show lo + 1 - lo = 1 by omega]; simp [List.range']
  · rw [e]; exact List.pairwise_singleton _ _

/-- bm with the list out from place lo on. -/
def overlay (bm : Nat → Nat) (lo : Nat) (out : List Nat) (j : Nat) : Nat := if lo ≤ j ∧ j < lo + out.length then out.getD (j - lo) 0 else bm j

theorem seg_overlay (bm : Nat → Nat) (lo hi : Nat) (out : List Nat) (hl : out.length = hi - lo) (h : lo ≤ hi) : seg (overlay bm lo out) lo hi = out := by
  apply List.ext_getElem
  · rw [seg_len, hl]
  · intro i h1 h2
    rw [seg_at]
    unfold overlay
    rw [if_pos ⟨by omega, by omega⟩, show lo + i - lo = i by omega]
    simp [List.getD, h2]

theorem ran_merge {mem : Nat → Int} {bm bm1 bm2 : Nat → Nat} {lo mid hi : Nat} {out : List Nat} (h1 : Ran mem bm bm1 lo mid) (h2 : Ran mem bm1 bm2 mid hi) (hm1 : lo ≤ mid) (hm2 : mid ≤ hi)
    (hp : out.Perm (seg bm2 lo mid ++ seg bm2 mid hi)) (hf : Falls mem out) : Ran mem bm (overlay bm2 lo out) lo hi := by
  have hl : out.length = hi - lo := by
    rw [hp.length_eq, List.length_append, seg_len, seg_len]; omega
  have e := seg_overlay bm2 lo hi out hl (by omega)
  refine ⟨?_, ?_, ?_⟩
  · intro j hj
    unfold overlay
    rw [if_neg (by omega), h2.out j (by omega), h1.out j (by omega)]
  · rw [e]
    refine hp.trans ?_
    have e1 : seg bm2 lo mid = seg bm1 lo mid := seg_congr (fun j _ h => h2.out j (.inl h))
    rw [e1]
    refine (h1.perm.append h2.perm).trans ?_
    have : List.range' lo (mid - lo) ++ List.range' mid (hi - mid) = List.range' lo (hi - lo) := by
      have := List.range'_append (s := lo) (m := mid - lo) (n := hi - mid) (step := 1)
      rw [show lo + 1 * (mid - lo) = mid by omega, show mid - lo + (hi - mid) = hi - lo by omega] at this
      exact this
    rw [this]
  · rw [e]; exact hf

variable {w w' w0 : World} {B n d : Nat} {I : Ids} {mem rank : Nat → Int} {bm : Nat → Nat}

/-- a list of places as cells. -/
def cellsOf (out : List Nat) : List Value := out.map fun (x : Nat) => Value.int .i32 (x : Int)
theorem cellsOf_length (out : List Nat) : (cellsOf out).length = out.length := by simp [cellsOf]
theorem cellsOf_snoc (out : List Nat) (x : Nat) : cellsOf (out ++ [x]) = cellsOf out ++ [.int .i32 (x : Int)] := by simp [cellsOf]
theorem cellsOf_one (out : List Nat) : ∀ v ∈ cellsOf out, v.oneCell' = true := by
  intro v hv
  simp only [cellsOf, List.mem_map] at hv
  obtain ⟨x, _, rfl⟩ := hv
  rfl

/-- Behind an append within the capacity of merged. -/
theorem CR.grown {k : Nat} {xs : List Value} (h : CR w0 B w I n d mem rank bm) (hg : w.grownBy w' (some I.gm)) (ho : w'.ownsRow B 21 1 (.slice (some ⟨I.gm, 0, none⟩) k n) k xs) : CR w0 B w' I n d mem rank bm := by
  obtain ⟨ft, hft⟩ := h.t
  obtain ⟨fa, hfa, hfm⟩ := h.a
  have hsz : B ≤ w.heap.size := Nat.le_trans h.hb (Nat.le_of_lt h.b.lt)
  have hm' := h.m
  have key : ∀ g, g < w.heap.size → g ≠ I.gm → w'.heap[g]? = w.heap[g]? := fun g hg1 hg2 => hg.block g hg1 (by simpa using hg2)
  have hrow : RowLen w' I.gm 21 n := by
    rcases ho.2 with ⟨h, _⟩ | ⟨g', cap', cur, h, hbg, hgg, hnc, hcm, hcs, htake⟩
    · simp at h
    · simp at h
      obtain ⟨rfl, rfl⟩ := h
      exact ⟨cur, hgg, by simpa using hcs⟩
  have hcm : I.cb ≠ I.gm := by
    intro e
    obtain ⟨cur, hh, _⟩ := hm'
    have := h.c
    rw [e, hh] at this
    simp at this
  exact ⟨(key _ (lt_of_block h.c) hcm).trans h.c, ⟨fa, hfa.kept (key _ hfa.lt (hfa.row.tag hm' (by decide))), hfm⟩, h.r.kept (key _ h.r.lt h.mr_ne.symm), h.b.kept (key _ h.b.lt h.bm_ne), hrow, ⟨_, hft.kept (key _ hft.lt (hft.row.tag hm' (by decide)))⟩,
    h.bm_ne, h.br_ne, h.mr_ne, h.ha, h.hb, h.hm, h.ht, h.rk, h.hn, h.hd, h.below.trans ⟨hg.os, hg.tape, hg.output, hg.size, fun k hk => key k (by omega) (by have := h.hm; omega)⟩⟩

/-- merged, emptied. -/
theorem own_start (h : CR w0 B w I n d mem rank bm) : w.ownsRow B 21 1 (.slice (some ⟨I.gm, 0, none⟩) 0 n) 0 (cellsOf []) := by
  obtain ⟨cur, hh, hs⟩ := h.m
  have hn := h.hn
  exact ⟨rfl, .inr ⟨I.gm, n, cur, rfl, h.hm, hh, Nat.zero_le _, by unfold maxLen; omega, by omega, rfl⟩⟩

theorem own_kept {g k cap : Nat} {xs : List Value} (h : w.ownsRow B 21 1 (.slice (some ⟨g, 0, none⟩) k cap) k xs) (hb : Below w.heap.size w w') : w'.ownsRow B 21 1 (.slice (some ⟨g, 0, none⟩) k cap) k xs := by
  refine ⟨h.1, ?_⟩
  rcases h.2 with ⟨h1, _⟩ | ⟨g', cap', cur, h1, hbg, hgg, r⟩
  · simp at h1
  · exact .inr ⟨g', cap', cur, h1, hbg, (hb.block _ (lt_of_block hgg)).trans hgg, r⟩

theorem below_q (w : World) (m : Nat) (o : Obj) : Below w.heap.size w ((w.drewN m).alloc o) := (below_drewN w m).alloc (Nat.le_refl _) o

theorem own_cells {g k cap : Nat} {xs : List Value} (h : w.ownsRow B 21 1 (.slice (some ⟨g, 0, none⟩) k cap) k xs) : ∀ j v, xs[j]? = some v → w.cell? ((⟨g, 0, none⟩ : Addr).add j) = some v := by
  intro j v hv
  rcases h.2 with ⟨h1, _⟩ | ⟨g', cap', cur, h1, hbg, hgg, hk, hm, hs, ht⟩
  · simp at h1
  · simp at h1
    obtain ⟨rfl, rfl⟩ := h1
    rw [← ht] at hv
    have hj : j < k * 1 := by
      rcases Nat.lt_or_ge j (k * 1) with h | h
      · exact h
      · rw [List.getElem?_take, if_neg (by omega)] at hv
        cases hv
    rw [List.getElem?_take, if_pos hj] at hv
    rw [Addr.add_lit, Nat.zero_add, rcell hgg]
    simpa using hv

/-- Behind the copy into byMemory. -/
theorem CR.copied {cur : Array Value} (h : CR w0 B w I n d mem rank bm) (hg : w.heap[I.gb]? = some (.cells cur 21 (0, 0))) (lo : Nat) (out : List Nat) (hfit : lo + out.length ≤ n) :
    CR w0 B (w.setRow I.gb (cur.toList.take lo ++ (cellsOf out ++ cur.toList.drop (lo + (cellsOf out).length))).toArray) I n d mem rank (overlay bm lo out) := by
  obtain ⟨ft, hft⟩ := h.t
  obtain ⟨fa, hfa, hfm⟩ := h.a
  have hm' := h.m
  obtain ⟨cur', hh', hs', hc'⟩ := h.b
  obtain rfl : cur = cur' := by
    rw [hg] at hh'
    simp at hh'
    exact hh'
  have hb := h.b
  have key : ∀ g, g ≠ I.gb → (w.setRow I.gb (cur.toList.take lo ++ (cellsOf out ++ cur.toList.drop (lo + (cellsOf out).length))).toArray).heap[g]? = w.heap[g]? := fun g hne => setRow_other w I.gb g _ hne
  refine ⟨(key _ (hb.ne_c h (by decide)).symm).trans h.c, ⟨fa, hfa.kept (key _ (hfa.tag hb (by decide))), hfm⟩, h.r.kept (key _ h.br_ne.symm), ?_, hm'.kept (key _ h.bm_ne.symm), ⟨_, hft.kept (key _ (hft.tag hb (by decide)))⟩,
    h.bm_ne, h.br_ne, h.mr_ne, h.ha, h.hb, h.hm, h.ht, h.rk, h.hn, h.hd, below_setRow h.below h.hb _⟩
  refine ⟨_, setRow_heap w I.gb cur _ 21 _ hg, ?_, ?_⟩
  · simp [cellsOf_length]; omega
  · intro i hi
    rw [List.getElem?_toArray]
    show _ = some (Value.int .i32 ((overlay bm lo out i : Nat) : Int))
    unfold overlay
    by_cases h1 : i < lo
    · rw [List.getElem?_append_left (by simp; omega), List.getElem?_take, if_pos h1, if_neg (by omega)]
      simpa using hc' i hi
    · by_cases h2 : i < lo + out.length
      · rw [List.getElem?_append_right (by simp; omega), List.getElem?_append_left (by simp [cellsOf_length]; omega), if_pos ⟨by omega, h2⟩]
        simp only [List.length_take, Array.length_toList, hs']
        rw [Nat.min_eq_left (by omega)]
        simp [cellsOf, List.getD, show i - lo < out.length by omega]
      · rw [List.getElem?_append_right (by simp; omega), List.getElem?_append_right (by simp [cellsOf_length]; omega), if_neg (by omega), List.getElem?_drop]
        simp only [List.length_take, Array.length_toList, hs', cellsOf_length]
        rw [Nat.min_eq_left (by omega), show lo + out.length + (i - lo - out.length) = i by omega]
        simpa using hc' i hi

end Go.Proofs.Qxb6001285a
