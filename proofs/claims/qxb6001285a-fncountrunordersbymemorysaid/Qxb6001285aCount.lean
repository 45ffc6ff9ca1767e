/- ZZCountRun: the walk. -/
import Derived.Test.Qxb6001285aRun
import Derived.Test.Qxb6001285aCopy
namespace Go.Proofs.Qxb6001285a
open Go.RowKit
set_option linter.unusedVariables false

theorem info53 : (Try.prog.info? 53).map (fun i => (i.zero, i.size, i.bytes)) = some (some (.agg #[.int .i64 0, .int .i64 0, .int .i64 0, .int .i64 0, .int .i64 0, .int .i64 0]), 6, 48) := by kernel_rfl

def mk53 (n : Nat) : Array Value := madeCells #[.int .i64 0, .int .i64 0, .int .i64 0, .int .i64 0, .int .i64 0, .int .i64 0] (n * 6)
def mk21 (n : Nat) : Array Value := madeCells #[.int .i32 0] (n * 1)
def mk2 (n : Nat) : Array Value := madeCells #[.int .i64 0] (n * 1)

theorem make47 (n : Nat) (hn : n ≤ 5000) (w : World) : (Instr.makeSlice 47 (.int .i64 (n : Int)) (.int .i64 (n : Int))).run Try.prog w = .ok (.slice (some ⟨w.heap.size, 0, none⟩) n n) (w.alloc (.cells (mk53 n) 53)) := by
  obtain ⟨i0, hi, hz0, hz1, hz2⟩ := info_parts info53
  have := run_make (P := Try.prog) w 47 53 i0 _ Try.underlying47 hi hz0 .i64 .i64 (n : Int) (n : Int) (by omega) (by omega) (by rw [hz2]; omega) (by omega)
  rw [hz1] at this
  exact this
theorem make26 (n : Nat) (hn : n ≤ 5000) (w : World) : (Instr.makeSlice 26 (.int .i64 (n : Int)) (.int .i64 (n : Int))).run Try.prog w = .ok (.slice (some ⟨w.heap.size, 0, none⟩) n n) (w.alloc (.cells (mk21 n) 21)) := by
  obtain ⟨i0, hi, hz0, hz1, hz2⟩ := info_parts info21
  have := run_make (P := Try.prog) w 26 21 i0 _ Try.underlying26 hi hz0 .i64 .i64 (n : Int) (n : Int) (by omega) (by omega) (by rw [hz2]; omega) (by omega)
  rw [hz1] at this
  exact this
theorem make22 (n : Nat) (hn : n ≤ 5000) (w : World) : (Instr.makeSlice 22 (.int .i64 (n : Int)) (.int .i64 (n : Int))).run Try.prog w = .ok (.slice (some ⟨w.heap.size, 0, none⟩) n n) (w.alloc (.cells (mk2 n) 2)) := by
  obtain ⟨i0, hi, hz0, hz1, hz2⟩ := info_parts info2
  have := run_make (P := Try.prog) w 22 2 i0 _ Try.underlying22 hi hz0 .i64 .i64 (n : Int) (n : Int) (by omega) (by omega) (by rw [hz2]; omega) (by omega)
  rw [hz1] at this
  exact this

theorem made1 (k : IntKind) (n i : Nat) (hi : i < n) : (madeCells #[.int k 0] (n * 1))[i]? = some (Value.int k 0) := by
  unfold madeCells
  rw [Nat.mul_one]
  simp [hi, Nat.mod_one]
theorem made6 (n i : Nat) (hi : i < n * 6) : (mk53 n)[i]? = some (Value.int .i64 0) := by
  unfold mk53 madeCells
  simp only [Array.getElem?_map, Array.getElem?_range, hi, if_true, Option.map_some]
  have h : i % 6 = 0 ∨ i % 6 = 1 ∨ i % 6 = 2 ∨ i % 6 = 3 ∨ i % 6 = 4 ∨ i % 6 = 5 := by omega
  have e : (#[Value.int .i64 0, .int .i64 0, .int .i64 0, .int .i64 0, .int .i64 0, .int .i64 0] : Array Value).size = 6 := rfl
  rw [e]
  rcases h with h | h | h | h | h | h <;> rw [h] <;> rfl

theorem hal (w : World) (o : Obj) (k : Nat) : (w.alloc o).heap[k]? = if k = w.heap.size then some o else w.heap[k]? := by
  show (w.heap.push o)[k]? = _
  rw [Array.getElem?_push]
theorem hal_lt (w : World) (o : Obj) (k : Nat) (h : k < w.heap.size) : (w.alloc o).heap[k]? = w.heap[k]? := Below.heap_alloc w o k h
theorem hal_eq (w : World) (o : Obj) (k : Nat) (h : k = w.heap.size) : (w.alloc o).heap[k]? = some o := by rw [hal, if_pos h]
theorem hdr (w : World) (k : Nat) : w.drew.heap[k]? = w.heap[k]? := rfl

theorem bk0 (w : World) (a b c d e : Obj) : (((((w.alloc a).alloc b).alloc c).alloc d).alloc e).drew.heap[w.heap.size]? = some a := by
  rw [hdr, hal_lt _ _ _ (by simp <;> omega), hal_lt _ _ _ (by simp <;> omega), hal_lt _ _ _ (by simp <;> omega), hal_lt _ _ _ (by simp), hal_eq _ _ _ rfl]
theorem bk1 (w : World) (a b c d e : Obj) : (((((w.alloc a).alloc b).alloc c).alloc d).alloc e).drew.heap[w.heap.size + 1]? = some b := by
  rw [hdr, hal_lt _ _ _ (by simp <;> omega), hal_lt _ _ _ (by simp <;> omega), hal_lt _ _ _ (by simp), hal_eq _ _ _ (by simp)]
theorem bk2 (w : World) (a b c d e : Obj) : (((((w.alloc a).alloc b).alloc c).alloc d).alloc e).drew.heap[w.heap.size + 1 + 1]? = some c := by
  rw [hdr, hal_lt _ _ _ (by simp <;> omega), hal_lt _ _ _ (by simp), hal_eq _ _ _ (by simp)]
theorem bk3 (w : World) (a b c d e : Obj) : (((((w.alloc a).alloc b).alloc c).alloc d).alloc e).drew.heap[w.heap.size + 1 + 1 + 1]? = some d := by
  rw [hdr, hal_lt _ _ _ (by simp), hal_eq _ _ _ (by simp)]
theorem bk4 (w : World) (a b c d e : Obj) : (((((w.alloc a).alloc b).alloc c).alloc d).alloc e).drew.heap[w.heap.size + 1 + 1 + 1 + 1]? = some e := by
  rw [hdr, hal_eq _ _ _ (by simp)]

/-- Five new blocks, in whatever order. -/
theorem cr_start {w : World} {rank : Nat → Int} {cb ga gr gb gm gt n d : Nat} {o1 o2 o3 o4 o5 : Obj} (hr : IntRow w gr 21 n .i32 rank) (hrk : ∀ i, i < n → 1 ≤ rank i ∧ rank i < (d : Int)) (hn : n ≤ 4096) (hd : d ≤ 4097)
    (hc : (((((w.alloc o1).alloc o2).alloc o3).alloc o4).alloc o5).drew.heap[cb]? = some (.cells #[.slice none 0 0, .slice none 0 0, .slice (some ⟨ga, 0, none⟩) n n, .slice none 0 0, .slice (some ⟨gr, 0, none⟩) n n, .slice (some ⟨gb, 0, none⟩) n n, .slice (some ⟨gm, 0, none⟩) n n, .slice (some ⟨gt, 0, none⟩) d d] 49 (0, 0)))
    (h1 : (((((w.alloc o1).alloc o2).alloc o3).alloc o4).alloc o5).drew.heap[ga]? = some (.cells (mk53 n) 53 (0, 0)))
    (h2 : (((((w.alloc o1).alloc o2).alloc o3).alloc o4).alloc o5).drew.heap[gb]? = some (.cells (mk21 n) 21 (0, 0)))
    (h3 : (((((w.alloc o1).alloc o2).alloc o3).alloc o4).alloc o5).drew.heap[gm]? = some (.cells (mk21 n) 21 (0, 0)))
    (h4 : (((((w.alloc o1).alloc o2).alloc o3).alloc o4).alloc o5).drew.heap[gt]? = some (.cells (mk2 d) 2 (0, 0)))
    (b1 : w.heap.size ≤ ga) (b2 : w.heap.size ≤ gb) (b3 : w.heap.size ≤ gm) (b4 : w.heap.size ≤ gt) (hne : gb ≠ gm) :
    CR w w.heap.size (((((w.alloc o1).alloc o2).alloc o3).alloc o4).alloc o5).drew ⟨cb, ga, gr, gb, gm, gt⟩ n d (fun _ => 0) rank (fun _ => 0) := by
  have hB : Below w.heap.size w (((((w.alloc o1).alloc o2).alloc o3).alloc o4).alloc o5).drew :=
    ((((((Below.refl _ _).alloc (Nat.le_refl _) _).alloc (by simp) _).alloc (by simp; omega) _).alloc (by simp; omega) _).alloc (by simp; omega) _).drew
  have hlt := hr.lt
  exact ⟨hc, ⟨fun _ => 0, ⟨_, h1, size_madeCells _ _, fun i hi => made6 n i hi⟩, fun _ _ => rfl⟩, hr.kept (hB.block _ hlt), ⟨_, h2, by show (madeCells _ _).size = n; rw [size_madeCells]; omega, fun i hi => made1 .i32 n i hi⟩, ⟨_, h3, by show (madeCells _ _).size = n; rw [size_madeCells]; omega⟩, ⟨fun _ => 0, _, h4, by show (madeCells _ _).size = d; rw [size_madeCells]; omega, fun i hi => made1 .i64 d i hi⟩,
    hne, by show gb ≠ gr; omega, by show gm ≠ gr; omega, b1, b2, b3, b4, hrk, hn, hd, hB⟩

variable {w w0 : World} {B n d : Nat} {I : Ids} {mem rank : Nat → Int} {bm : Nat → Nat}

/-- A store into an amount's memory. -/
theorem CR.setM (h : CR w0 B w I n d mem rank bm) (k : Nat) (z : Int) : CR w0 B (w.setCell ⟨I.ga, k * 6 + 1, none⟩ (.int .i64 z)) I n d (upd mem k z) rank bm := by
  obtain ⟨ft, hft⟩ := h.t
  obtain ⟨fa, hfa, hfm⟩ := h.a
  have hfm' := h.m
  refine ⟨by rw [hset_other (hfa.ne_c h (by decide)).symm]; exact h.c, ⟨_, hfa.set (k * 6 + 1) z, fun j hj => ?_⟩, h.r.kept (hset_other (h.r.tag hfa (by decide)) _ _), h.b.kept (hset_other (h.b.tag hfa (by decide)) _ _),
    hfm'.kept (hset_other (hfm'.tag hfa.row (by decide)) _ _), ⟨_, hft.kept (hset_other (hft.tag hfa (by decide)) _ _)⟩, h.bm_ne, h.br_ne, h.mr_ne, h.ha, h.hb, h.hm, h.ht, h.rk, h.hn, h.hd, h.below.setCell h.ha _⟩
  unfold upd
  by_cases e : j = k
  · rw [if_pos e, if_pos (by omega)]
  · rw [if_neg e, if_neg (by omega)]; exact hfm j hj

/-- An amount laid. -/
theorem CR.put (h : CR w0 B w I n d mem rank bm) (k : Nat) (v m g t : Int) :
    CR w0 B (w.setCells I.ga (k * 6) [.int .i64 v, .int .i64 m, .int .i64 g, .int .i64 t, .int .i64 0, .int .i64 0]) I n d (upd mem k m) rank bm := by
  have h1 := h.setA (k * 6) v (by intro j; omega)
  have h2 := h1.setM k m
  have h3 := h2.setA (k * 6 + 2) g (by intro j; omega)
  have h4 := h3.setA (k * 6 + 3) t (by intro j; omega)
  have h5 := h4.setA (k * 6 + 4) 0 (by intro j; omega)
  have h6 := h5.setA (k * 6 + 5) 0 (by intro j; omega)
  exact h6

theorem CR.congrM {mem' : Nat → Int} (h : CR w0 B w I n d mem rank bm) (hm : ∀ i, i < n → mem i = mem' i) : CR w0 B w I n d mem' rank bm := by
  obtain ⟨fa, hfa, hfm⟩ := h.a
  exact ⟨h.c, ⟨fa, hfa, fun i hi => (hfm i hi).trans (hm i hi)⟩, h.r, h.b, h.m, h.t, h.bm_ne, h.br_ne, h.mr_ne, h.ha, h.hb, h.hm, h.ht, h.rk, h.hn, h.hd, h.below⟩
theorem Hid.mk2 {p : Prop} (h : p) : Hid p := h

/-- What ZZCountRun leaves. -/
def Counted (w : World) (n : Nat) (mem : Nat → Int) (e : Ending) (w' : World) : Prop :=
  ∃ (v v2 : Value) (gb : Nat) (bm : Nat → Nat), e = .returned (.tuple #[v, .slice (some ⟨gb, 0, none⟩) n n, v2]) ∧ IntRow w' gb 21 n .i32 (fun i => (bm i : Int)) ∧ (seg bm 0 n).Perm (List.range' 0 n) ∧ Falls mem (seg bm 0 n) ∧ Below w.heap.size w w'

set_option maxRecDepth 100000 in
set_option maxHeartbeats 8000000 in
theorem count15 {fv fm fg fw rank : Nat → Int} (g0 g1 g2 g3 gr : Nat) (hv : IntRow w g0 2 n .i64 fv) (hm : IntRow w g1 2 n .i64 fm) (hg : IntRow w g2 2 n .i64 fg) (hw : IntRow w g3 2 n .i64 fw) (hr : IntRow w gr 21 n .i32 rank)
    (hrk : ∀ i, i < n → 1 ≤ rank i ∧ rank i < (d : Int)) (hn : n ≤ 4096) (hpos : 0 < n) (hd : d ≤ 4097) :
    Calls Try.prog 15 #[.slice (some ⟨g0, 0, none⟩) n n, .slice (some ⟨g1, 0, none⟩) n n, .slice (some ⟨g2, 0, none⟩) n n, .slice (some ⟨g3, 0, none⟩) n n, .slice (some ⟨gr, 0, none⟩) n n, .int .i64 (d : Int)] w (Counted w n fm) := by
  have m47 := make47 n (by omega)
  have m26 := make26 n (by omega)
  have m22 := make22 d (by omega)
  have l0 := hv.lt
  have l1 := hm.lt
  have l2 := hg.lt
  have l3 := hw.lt
  have HI : Hid (IntRow w g0 2 n .i64 fv ∧ IntRow w g1 2 n .i64 fm ∧ IntRow w g2 2 n .i64 fg ∧ IntRow w g3 2 n .i64 fw) := ⟨hv, hm, hg, hw⟩
  have HK : Hid (IntRow w gr 21 n .i32 rank ∧ ∀ i, i < n → 1 ≤ rank i ∧ rank i < (d : Int)) := ⟨hr, hrk⟩
  clear hv hm hg hw hr hrk
  go_enter Try.func15, Try.ntmps15
  go_wp2_with fail
  go_cut [16, 23, 26, 28, 30] from 22 to 32 (fun p v0 v1 v2 v3 wc => ∃ cb ga gb gm gt : Nat, p = .pointer (some ⟨cb, 0, none⟩) ∧ v0 = .slice (some ⟨ga, 0, none⟩) n n ∧ v1 = .slice (some ⟨gb, 0, none⟩) n n ∧ v2 = .slice (some ⟨gm, 0, none⟩) n n ∧ v3 = .slice (some ⟨gt, 0, none⟩) d d ∧ CR w w.heap.size wc ⟨cb, ga, gr, gb, gm, gt⟩ n d (fun _ => 0) rank (fun _ => 0))
  case first =>
    go_region
    all_goals (go_wp2_with fail; go_meet)
    all_goals refine ⟨_, _, _, _, _, rfl, rfl, rfl, rfl, rfl, cr_start HK.out.1 HK.out.2 hn hd ?_ ?_ ?_ ?_ ?_ ?_ ?_ ?_ ?_ ?_⟩
    all_goals first | omega | rw [bk0] | rw [bk1] | rw [bk2] | rw [bk3] | rw [bk4]
  case rest =>
    obtain ⟨cb, ga, gb, gm, gt, rfl, rfl, rfl, rfl, rfl, hC0⟩ := hcut
    have HC0 : Hid (CR w w.heap.size wc ⟨cb, ga, gr, gb, gm, gt⟩ n d (fun _ => 0) rank (fun _ => 0)) := hC0
    clear hC0 m47 m26 m22 HK
    go_wp2_with fail
    go_loopw [17] (fun iv wr => ∃ (k : Nat) (mem' : Nat → Int), k ≤ n ∧ iv = .int .i64 k ∧ CR w w.heap.size wr ⟨cb, ga, gr, gb, gm, gt⟩ n d mem' rank (fun _ => 0) ∧ Hid (∀ i, i < k → mem' i = fm i)) (fun iv _ => n - (intOf iv).toNat)
    case atStart => exact ⟨0, _, Nat.zero_le _, rfl, HC0.out, fun i hi => (by omega)⟩
    case round =>
      obtain ⟨k, mem', hk, rfl, hC, HM⟩ := hrel
      clear HC0
      by_cases hlt : k < n
      · obtain ⟨x0, hx0⟩ : ∃ x, x = fv k := ⟨_, rfl⟩
        obtain ⟨x1, hx1⟩ : ∃ x, x = fm k := ⟨_, rfl⟩
        obtain ⟨x2, hx2⟩ : ∃ x, x = fg k := ⟨_, rfl⟩
        obtain ⟨x3, hx3⟩ : ∃ x, x = fw k := ⟨_, rfl⟩
        have q0 : wr.cell? ⟨g0, k, none⟩ = some (.int .i64 x0) := by rw [hx0]; exact (hC.below.cell (by exact l0)).trans (HI.out.1.cell hlt)
        have q1 : wr.cell? ⟨g1, k, none⟩ = some (.int .i64 x1) := by rw [hx1]; exact (hC.below.cell (by exact l1)).trans (HI.out.2.1.cell hlt)
        have q2 : wr.cell? ⟨g2, k, none⟩ = some (.int .i64 x2) := by rw [hx2]; exact (hC.below.cell (by exact l2)).trans (HI.out.2.2.1.cell hlt)
        have q3 : wr.cell? ⟨g3, k, none⟩ = some (.int .i64 x3) := by rw [hx3]; exact (hC.below.cell (by exact l3)).trans (HI.out.2.2.2.cell hlt)
        have HN : Hid (∀ i, i < k + 1 → upd mem' k x1 i = fm i) := by
          intro i hi
          unfold upd
          by_cases e : i = k
          · rw [if_pos e, e, hx1]
          · rw [if_neg e]; exact HM.out i (by omega)
        have hB := hC.below.size
        have hs0 : g0 < wr.heap.size := by omega
        have hs1 : g1 < wr.heap.size := by omega
        have hs2 : g2 < wr.heap.size := by omega
        have HC : Hid (CR w w.heap.size wr ⟨cb, ga, gr, gb, gm, gt⟩ n d mem' rank (fun _ => 0)) := hC
        clear hC hx0 hx1 hx2 hx3 HM
        go_wp2_with fail
        refine still_tail 12 (by kernel_rfl) (by kernel_rfl) ?_
        intro wx hwx
        have HX : Hid (CR w w.heap.size wx ⟨cb, ga, gr, gb, gm, gt⟩ n d mem' rank (fun _ => 0)) := by
          rw [hwx]
          exact HC.out.same (((Below.refl wr.heap.size wr).alloc (Nat.le_refl _) _).drew)
        have hblk : wx.heap[wr.heap.size]? = some (.cells #[.int .i64 x0, .int .i64 x1, .int .i64 x2] 50 (0, 0)) := by
          rw [hwx, hdr, hal_eq _ _ _ rfl]
        have p0 : wx.cell? ⟨wr.heap.size, 0, none⟩ = some (.int .i64 x0) := rcell hblk 0
        have p1 : wx.cell? ⟨wr.heap.size, 1, none⟩ = some (.int .i64 x1) := rcell hblk 1
        have p2 : wx.cell? ⟨wr.heap.size, 2, none⟩ = some (.int .i64 x2) := rcell hblk 2
        have p3 : wx.cell? ⟨g3, k, none⟩ = some (.int .i64 x3) := by
          rw [hwx]
          exact (((Below.refl wr.heap.size wr).alloc (Nat.le_refl _) _).drew.cell (by show g3 < wr.heap.size; omega)).trans q3
        have c2 : wx.cell? ⟨cb, 2, none⟩ = some (.slice (some ⟨ga, 0, none⟩) n n) := HX.out.cf.1
        obtain ⟨fa, hfa, _⟩ := HX.out.a
        have y0 : wx.cell? ⟨ga, k * 6, none⟩ = some (.int .i64 (fa (k * 6))) := hfa.cell (by omega)
        have y1 : wx.cell? ⟨ga, k * 6 + 1, none⟩ = some (.int .i64 (fa (k * 6 + 1))) := hfa.cell (by omega)
        have y2 : wx.cell? ⟨ga, k * 6 + 2, none⟩ = some (.int .i64 (fa (k * 6 + 2))) := hfa.cell (by omega)
        have y3 : wx.cell? ⟨ga, k * 6 + 3, none⟩ = some (.int .i64 (fa (k * 6 + 3))) := hfa.cell (by omega)
        have y4 : wx.cell? ⟨ga, k * 6 + 4, none⟩ = some (.int .i64 (fa (k * 6 + 4))) := hfa.cell (by omega)
        have y5 : wx.cell? ⟨ga, k * 6 + 5, none⟩ = some (.int .i64 (fa (k * 6 + 5))) := hfa.cell (by omega)
        have hz : ∀ i, wx.frozen? ⟨ga, i, none⟩ = false := fun i => hfa.free i
        have HP := Hid.mk2 (HX.out.put k x0 x1 x2 x3)
        clear hwx hfa hblk HC HX q0 q1 q2 q3
        simp only [List.take_succ_cons, List.take_zero, List.drop_succ_cons, List.drop_zero]
        repeat still_step
        refine wpStill_nil ?_
        go_wp2_with fail
        go_roundw
        case rel => exact ⟨k + 1, _, by omega, by go_num, HP.out, HN⟩
        case measure => simp [intOf]; omega
      · have hkn : n = k := by omega
        subst hkn
        have hC1 : CR w w.heap.size wr ⟨cb, ga, gr, gb, gm, gt⟩ n d fm rank (fun _ => 0) := hC.congrM HM.out
        clear hC HM HI
        go_wp2_with fail
        refine (run21 hC1 0 n hpos (Nat.le_refl _)).mono ?_
        rintro e w3 ⟨rfl, bm', hC3, hR⟩
        clear hC1
        have m22 := make22 n (by omega)
        have HC3 : Hid (CR w w.heap.size w3 ⟨cb, ga, gr, gb, gm, gt⟩ n d fm rank bm' ∧ Ran fm (fun _ => 0) bm' 0 n) := ⟨hC3, hR⟩
        have HS : Hid ((∃ g, IntRow (w3.alloc (.cells (mk2 n) 2)) w3.heap.size 2 n .i64 g) ∧ Below w3.heap.size w3 (w3.alloc (.cells (mk2 n) 2))) :=
          ⟨⟨fun _ => 0, _, hal_eq _ _ _ rfl, by show (madeCells _ _).size = n; rw [size_madeCells]; omega, fun i hi => made1 .i64 n i hi⟩, (Below.refl _ _).alloc (Nat.le_refl _) _⟩
        clear hC3 hR
        go_wp2_with fail
        clear m22
        go_loopw [19] (fun iv wr => ∃ k : Nat, k ≤ n ∧ iv = .int .i64 k ∧ Hid ((∃ g, IntRow wr w3.heap.size 2 n .i64 g) ∧ Below w3.heap.size w3 wr)) (fun iv _ => n - (intOf iv).toNat)
        case atStart => exact ⟨0, Nat.zero_le _, rfl, HS⟩
        case round =>
          obtain ⟨k, hk, rfl, HG⟩ := hrel
          clear HS
          have hC4 := HC3.out.1.same HG.out.2
          by_cases hlt : k < n
          · have c2 : wr.cell? ⟨cb, 2, none⟩ = some (.slice (some ⟨ga, 0, none⟩) n n) := hC4.cf.1
            obtain ⟨fa, hfa, _⟩ := hC4.a
            have y5 : wr.cell? ⟨ga, k * 6 + 5, none⟩ = some (.int .i64 (fa (k * 6 + 5))) := hfa.cell (by omega)
            obtain ⟨⟨g, hg⟩, hbel⟩ := HG.out
            have cg := hg.cell hlt
            have fg' := hg.free k
            generalize fa (k * 6 + 5) = z5 at y5
            have HN : Hid ((∃ g, IntRow (wr.setCell ⟨w3.heap.size, k, none⟩ (.int .i64 z5)) w3.heap.size 2 n .i64 g) ∧ Below w3.heap.size w3 (wr.setCell ⟨w3.heap.size, k, none⟩ (.int .i64 z5))) := ⟨⟨_, hg.set k z5⟩, hbel.setCell (Nat.le_refl _) _⟩
            generalize g k = zg at cg
            clear hfa hg hbel HG hC4
            go_wp2_with fail
            go_roundw
            case rel => exact ⟨k + 1, by omega, by go_num, HN⟩
            case measure => simp [intOf]; omega
          · have c5 : wr.cell? ⟨cb, 5, none⟩ = some (.slice (some ⟨gb, 0, none⟩) n n) := hC4.cf.2.2.1
            have c7 : wr.cell? ⟨cb, 7, none⟩ = some (.slice (some ⟨gt, 0, none⟩) d d) := hC4.cf.2.2.2.2
            have HC4 : Hid (CR w w.heap.size wr ⟨cb, ga, gr, gb, gm, gt⟩ n d fm rank bm') := hC4
            clear hC4
            go_wp2_with fail
            go_quiet (fail)
            go_wp2_with fail
            have hC5 := HC4.out.same (below_drewN wr nq)
            go_ret3
            exact ⟨_, _, gb, bm', rfl, hC5.b, HC3.out.2.perm, HC3.out.2.falls, hC5.below⟩
end Go.Proofs.Qxb6001285a
