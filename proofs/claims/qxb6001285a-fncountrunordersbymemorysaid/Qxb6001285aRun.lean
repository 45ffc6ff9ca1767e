/- countRun: the walk. -/
import Derived.Test.Qxb6001285aMerge
import Derived.Deep.QuietTactic
import Derived.BigQuiet
import Derived.Deep.RegionWith
import Derived.Deep.CutRange
import Derived.StillTailTactics
import Derived.Maps.AppendAt
namespace Go.Proofs.Qxb6001285a
open Go.RowKit
set_option linter.unusedVariables false

/-- A region that draws: all but the forced tail only reads. -/
theorem still_tail {P : Program} {id : Nat} {Q : Exit → Act → World → Prop} {a : Act} {w : World} {l : List Oper} (n : Nat) (hm : P.follows .mixedOrders = true) (hB : Region.lexTailB .any l.toArray n = true)
    (h : ∀ wx, wx = w.drew → wpStill P l.toArray wx (fun a' => wpList P l.toArray Q (l.drop n) a' wx) (l.take n) a) : (Code.region id l.toArray true).wp P Q a w :=
  wp_region_still_tail n hm hB (h _ rfl)

theorem info21 : (Try.prog.info? 21).map (fun i => (i.zero, i.size, i.bytes)) = some (some (.int .i32 0), 1, 4) := by kernel_rfl

variable {w w0 : World} {B n d : Nat} {I : Ids} {mem rank : Nat → Int} {bm : Nat → Nat}

set_option maxRecDepth 100000 in
set_option maxHeartbeats 400000 in
theorem run21_one (h : CR w0 B w I n d mem rank bm) (lo : Nat) (hlo : lo < n) :
    Calls Try.prog 21 #[.pointer (some ⟨I.cb, 0, none⟩), .int .i64 (lo : Int), .int .i64 ((lo : Int) + 1)] w fun e w' => e = .returned (.tuple #[]) ∧ CR w0 B w' I n d mem rank (updN bm lo lo) := by
  obtain ⟨_, _, c5, _, _⟩ := h.cf
  have cb := h.b.cell hlo
  have fb := h.b.free lo
  have hn := h.hn
  have HC : Hid (CR w0 B (w.setCell ⟨I.gb, lo, none⟩ (.int .i32 (lo : Int))) I n d mem rank (updN bm lo lo)) := h.setB lo lo
  clear h
  have h1 : ((lo : Int) + 1 - lo == 1) = true := by rw [beq_iff_eq]; omega
  go_enter Try.func21, Try.ntmps21
  go_wp2
  first | go_end0 | refine bodyPost_ret (results_none rfl _ _ _) rfl ?_
  exact ⟨rfl, HC.out⟩

set_option maxRecDepth 100000 in
set_option maxHeartbeats 8000000 in
theorem run21_more (h : CR w0 B w I n d mem rank bm) (lo hi : Nat) (hlo : lo + 1 < hi) (hhi : hi ≤ n) (m : Nat) (hm : hi - lo ≤ m + 1)
    (ih : Hid (∀ (lo hi : Nat) (w : World) (bm : Nat → Nat), hi - lo ≤ m → CR w0 B w I n d mem rank bm → lo < hi → hi ≤ n → Calls Try.prog 21 #[.pointer (some ⟨I.cb, 0, none⟩), .int .i64 (lo : Int), .int .i64 (hi : Int)] w fun e w' => e = .returned (.tuple #[]) ∧ ∃ bm', CR w0 B w' I n d mem rank bm' ∧ Ran mem bm bm' lo hi)) :
    Calls Try.prog 21 #[.pointer (some ⟨I.cb, 0, none⟩), .int .i64 (lo : Int), .int .i64 (hi : Int)] w fun e w' => e = .returned (.tuple #[]) ∧ ∃ bm', CR w0 B w' I n d mem rank bm' ∧ Ran mem bm bm' lo hi := by
  have hn := h.hn
  have HC : Hid (CR w0 B w I n d mem rank bm) := h
  clear h
  have h1 : ((hi : Int) - lo == 1) = false := by rw [beq_eq_false_iff_ne]; omega
  obtain ⟨mid, hmid, hm1, hm2⟩ : ∃ mid : Nat, ((lo : Int) + hi) / 2 = (mid : Int) ∧ lo < mid ∧ mid < hi := ⟨(lo + hi) / 2, by omega, by omega, by omega⟩
  have HM : Hid (((lo : Int) + hi) / 2 = (mid : Int)) := hmid
  obtain ⟨i0, hinf, hz0, hz1, hz2⟩ := info_parts info21
  clear hmid
  go_enter Try.func21, Try.ntmps21
  go_wp2_with fail
  rw [HM.out]
  refine (ih.out lo mid _ bm (by omega) HC.out hm1 (by omega)).mono ?_
  rintro e w1 ⟨rfl, bm1, hC1, hR1⟩
  clear HC
  go_wp2_with fail
  refine (ih.out mid hi _ bm1 (by omega) hC1 hm2 (by omega)).mono ?_
  rintro e w2 ⟨rfl, bm2, hC2, hR2⟩
  clear hC1 ih hm
  have hF : Falls mem (seg bm2 lo mid) := by
    rw [seg_congr (bm := bm1) (fun j h1 h2 => hR2.out j (.inl h2))]
    exact hR1.falls
  have hS := hR2.falls
  have hlt : ∀ j, lo ≤ j → j < hi → bm2 j < n := by
    intro j h1 h2
    by_cases hj : j < mid
    · rw [hR2.out j (.inl hj)]
      have := hR1.lt h1 hj
      omega
    · have := hR2.lt (Nat.le_of_not_lt hj) h2
      omega
  have HR : Hid (Ran mem bm bm1 lo mid ∧ Ran mem bm1 bm2 mid hi ∧ Falls mem (seg bm2 lo mid) ∧ Falls mem (seg bm2 mid hi) ∧ ∀ j, lo ≤ j → j < hi → bm2 j < n) := ⟨hR1, hR2, hF, hS, hlt⟩
  have HC : Hid (CR w0 B w2 I n d mem rank bm2) := hC2
  obtain ⟨c2, c4, c5, c6, c7⟩ := hC2.cf
  clear hR1 hR2 hF hS hlt hC2 HM
  go_wp2_with fail
  go_quiet (fail)
  go_wp2_with fail
  have HC2 : Hid (CR w0 B (w2.drewN nq) I n d mem rank bm2) := HC.out.same (below_drewN w2 nq)
  clear HC c2 c4 c5 c6 c7
  go_loopw [9, 58] (fun ad i wr => ∃ a k : Nat, a ≤ mid - lo ∧ k ≤ hi - mid ∧ ad = .int .i64 a ∧ i = .int .i64 k ∧ CR w0 B wr I n d mem rank bm2) (fun _ i _ => hi - mid - (intOf i).toNat)
  case atStart => exact ⟨0, 0, Nat.zero_le _, Nat.zero_le _, rfl, rfl, HC2.out⟩
  case round =>
    obtain ⟨a, k, ha, hk, rfl, rfl, hC⟩ := hrel
    clear HC2
    by_cases hkl : k < hi - mid
    · obtain ⟨x, hx⟩ : ∃ x, x = bm2 (mid + k) := ⟨_, rfl⟩
      have hxn : x < n := by rw [hx]; exact HR.out.2.2.2.2 _ (by omega) (by omega)
      have cx : wr.cell? ⟨I.gb, mid + k, none⟩ = some (.int .i32 (x : Int)) := by rw [hx]; exact hC.b.cell (by omega)
      obtain ⟨fa, hfa, hfm⟩ := hC.a
      have cm : wr.cell? ⟨I.ga, x * 6 + 1, none⟩ = some (.int .i64 (mem x)) := by rw [← hfm x hxn]; exact hfa.cell (by omega)
      obtain ⟨c2, c4, c5, c6, c7⟩ := hC.cf
      have HC : Hid (CR w0 B wr I n d mem rank bm2) := hC
      clear hfa hfm hC hx
      go_wp2_with fail
      clear c2 c4 c5 c6 c7 cx cm
      go_loopw [9] (fun ad wr' => ∃ a : Nat, a ≤ mid - lo ∧ ad = .int .i64 a ∧ CR w0 B wr' I n d mem rank bm2) (fun ad _ => mid - lo - (intOf ad).toNat)
      case atStart => exact ⟨a, ha, rfl, HC.out⟩
      case round =>
        obtain ⟨a, ha, rfl, hC⟩ := hrel
        clear HC
        obtain ⟨c2, c4, c5, c6, c7⟩ := hC.cf
        by_cases hal : a < mid - lo
        · obtain ⟨y, hy⟩ : ∃ y, y = bm2 (lo + a) := ⟨_, rfl⟩
          have hyn : y < n := by rw [hy]; exact HR.out.2.2.2.2 _ (by omega) (by omega)
          have cy : wr.cell? ⟨I.gb, lo + a, none⟩ = some (.int .i32 (y : Int)) := by rw [hy]; exact hC.b.cell (by omega)
          obtain ⟨fa, hfa, hfm⟩ := hC.a
          have cm : wr.cell? ⟨I.ga, y * 6 + 1, none⟩ = some (.int .i64 (mem y)) := by rw [← hfm y hyn]; exact hfa.cell (by omega)
          have cw : wr.cell? ⟨I.ga, y * 6 + 3, none⟩ = some (.int .i64 (fa (y * 6 + 3))) := hfa.cell (by omega)
          generalize fa (y * 6 + 3) = z at cw
          clear hfa hfm hy
          have HC : Hid (CR w0 B wr I n d mem rank bm2) := hC
          obtain ⟨fa, hfa, hfm⟩ := hC.a
          have cx5 : wr.cell? ⟨I.ga, x * 6 + 5, none⟩ = some (.int .i64 (fa (x * 6 + 5))) := hfa.cell (by omega)
          have fx5 := hfa.free (x * 6 + 5)
          have crx := hC.r.cell hxn
          obtain ⟨hrk1, hrk2⟩ := hC.rk x hxn
          obtain ⟨r, hr⟩ := Int.eq_ofNat_of_zero_le (show 0 ≤ rank x by omega)
          rw [hr] at crx hrk1 hrk2
          have hrd : r < d := by omega
          generalize fa (x * 6 + 5) = z5 at cx5
          clear hfa hfm hC hr
          go_wp2_with fail
          go_quiet (fail)
          go_wp2_with fail
          · clear cx5 fx5 crx
            refine still_tail 16 (by kernel_rfl) (by kernel_rfl) ?_
            intro wx hwx
            have HX : Hid (CR w0 B wx I n d mem rank bm2) := by rw [hwx]; exact HC.out.same ⟨rfl, rfl, rfl, Nat.le_refl _, fun _ _ => rfl⟩
            replace cy : wx.cell? ⟨I.gb, lo + a, none⟩ = some (.int .i32 (y : Int)) := by rw [hwx]; exact cy
            replace cm : wx.cell? ⟨I.ga, y * 6 + 1, none⟩ = some (.int .i64 (mem y)) := by rw [hwx]; exact cm
            replace cw : wx.cell? ⟨I.ga, y * 6 + 3, none⟩ = some (.int .i64 z) := by rw [hwx]; exact cw
            replace c2 : wx.cell? ⟨I.cb, 2, none⟩ = some (.slice (some ⟨I.ga, 0, none⟩) n n) := by rw [hwx]; exact c2
            clear hwx HC c4 c5 c6 c7
            simp only [List.take_succ_cons, List.take_zero, List.drop_succ_cons, List.drop_zero]
            repeat still_step
            refine wpStill_nil ?_
            go_wp2_with fail
            refine (add24 HX.out y hyn z).mono ?_
            rintro e w' ⟨rfl, hC'⟩
            go_wp2_with fail
            go_roundw
            case rel => exact ⟨a + 1, by omega, by go_num, hC'⟩
            case measure => simp [intOf]; omega
          · clear cy cm cw
            refine still_tail 20 (by kernel_rfl) (by kernel_rfl) ?_
            intro wx hwx
            have HX : Hid (CR w0 B wx I n d mem rank bm2) := by rw [hwx]; exact HC.out.same ⟨rfl, rfl, rfl, Nat.le_refl _, fun _ _ => rfl⟩
            replace cx5 : wx.cell? ⟨I.ga, x * 6 + 5, none⟩ = some (.int .i64 z5) := by rw [hwx]; exact cx5
            replace crx : wx.cell? ⟨I.gr, x, none⟩ = some (.int .i32 (r : Int)) := by rw [hwx]; exact crx
            replace fx5 : wx.frozen? ⟨I.ga, x * 6 + 5, none⟩ = false := by rw [hwx]; exact fx5
            replace c2 : wx.cell? ⟨I.cb, 2, none⟩ = some (.slice (some ⟨I.ga, 0, none⟩) n n) := by rw [hwx]; exact c2
            replace c4 : wx.cell? ⟨I.cb, 4, none⟩ = some (.slice (some ⟨I.gr, 0, none⟩) n n) := by rw [hwx]; exact c4
            clear hwx HC c5 c6 c7
            simp only [List.take_succ_cons, List.take_zero, List.drop_succ_cons, List.drop_zero]
            obtain ⟨ft, hft⟩ := HX.out.t
            have HW : Hid (Calls Try.prog 25 #[.pointer (some ⟨I.cb, 0, none⟩), .int .i32 (r : Int)] wx fun e w' => e = .returned (.int .i64 (wsum ft r r 0)) ∧ w' = wx) := weight25 hft HX.out r hrd
            generalize wsum ft r r 0 = zz at HW
            clear hft
            repeat still_step
            still_call HW.out
            repeat still_step
            refine wpStill_nil ?_
            go_wp2_with fail
            go_roundw
            case rel => exact ⟨a, k + 1, ha, by omega, rfl, by go_num, HX.out.setA _ _ (by intro j; omega)⟩
            case measure => simp [intOf]; omega
        · have hd : decide ((a : Int) < ((mid - lo : Nat) : Int)) = false := by simp; omega
          have HC : Hid (CR w0 B wr I n d mem rank bm2) := hC
          obtain ⟨fa, hfa, hfm⟩ := hC.a
          have cx5 : wr.cell? ⟨I.ga, x * 6 + 5, none⟩ = some (.int .i64 (fa (x * 6 + 5))) := hfa.cell (by omega)
          have fx5 := hfa.free (x * 6 + 5)
          have crx := hC.r.cell hxn
          obtain ⟨hrk1, hrk2⟩ := hC.rk x hxn
          obtain ⟨r, hr⟩ := Int.eq_ofNat_of_zero_le (show 0 ≤ rank x by omega)
          rw [hr] at crx hrk1 hrk2
          have hrd : r < d := by omega
          generalize fa (x * 6 + 5) = z5 at cx5
          clear hfa hfm hC hr
          go_wp2_with fail
          go_quiet (fail)
          go_wp2_with fail
          refine still_tail 20 (by kernel_rfl) (by kernel_rfl) ?_
          intro wx hwx
          have HX : Hid (CR w0 B wx I n d mem rank bm2) := by rw [hwx]; exact HC.out.same ⟨rfl, rfl, rfl, Nat.le_refl _, fun _ _ => rfl⟩
          replace cx5 : wx.cell? ⟨I.ga, x * 6 + 5, none⟩ = some (.int .i64 z5) := by rw [hwx]; exact cx5
          replace crx : wx.cell? ⟨I.gr, x, none⟩ = some (.int .i32 (r : Int)) := by rw [hwx]; exact crx
          replace fx5 : wx.frozen? ⟨I.ga, x * 6 + 5, none⟩ = false := by rw [hwx]; exact fx5
          replace c2 : wx.cell? ⟨I.cb, 2, none⟩ = some (.slice (some ⟨I.ga, 0, none⟩) n n) := by rw [hwx]; exact c2
          replace c4 : wx.cell? ⟨I.cb, 4, none⟩ = some (.slice (some ⟨I.gr, 0, none⟩) n n) := by rw [hwx]; exact c4
          clear hwx HC c5 c6 c7
          simp only [List.take_succ_cons, List.take_zero, List.drop_succ_cons, List.drop_zero]
          obtain ⟨ft, hft⟩ := HX.out.t
          have HW : Hid (Calls Try.prog 25 #[.pointer (some ⟨I.cb, 0, none⟩), .int .i32 (r : Int)] wx fun e w' => e = .returned (.int .i64 (wsum ft r r 0)) ∧ w' = wx) := weight25 hft HX.out r hrd
          generalize wsum ft r r 0 = zz at HW
          clear hft
          repeat still_step
          still_call HW.out
          repeat still_step
          refine wpStill_nil ?_
          go_wp2_with fail
          go_roundw
          case rel => exact ⟨a, k + 1, ha, by omega, rfl, by go_num, HX.out.setA _ _ (by intro j; omega)⟩
          case measure => simp [intOf]; omega
    · have HC : Hid (CR w0 B wr I n d mem rank bm2) := hC
      clear hC
      go_wp2_with fail
      go_loopw [135] (fun iv wr' => ∃ t : Nat, t ≤ a ∧ iv = .int .i64 t ∧ CR w0 B wr' I n d mem rank bm2) (fun iv _ => a - (intOf iv).toNat)
      case atStart => exact ⟨0, Nat.zero_le _, rfl, HC.out⟩
      case round =>
        obtain ⟨t, ht, rfl, hC⟩ := hrel
        clear HC
        by_cases htl : t < a
        · obtain ⟨y, hy⟩ : ∃ y, y = bm2 (lo + t) := ⟨_, rfl⟩
          have hyn : y < n := by rw [hy]; exact HR.out.2.2.2.2 _ (by omega) (by omega)
          have cy : wr.cell? ⟨I.gb, lo + t, none⟩ = some (.int .i32 (y : Int)) := by rw [hy]; exact hC.b.cell (by omega)
          obtain ⟨fa, hfa, hfm⟩ := hC.a
          have cw : wr.cell? ⟨I.ga, y * 6 + 3, none⟩ = some (.int .i64 (fa (y * 6 + 3))) := hfa.cell (by omega)
          generalize fa (y * 6 + 3) = z at cw
          obtain ⟨c2, _, _, _, _⟩ := hC.cf
          have HC : Hid (CR w0 B wr I n d mem rank bm2) := hC
          clear hfa hfm hy hC
          go_wp2_with fail
          refine (add24 HC.out y hyn _).mono ?_
          rintro e w' ⟨rfl, hC'⟩
          go_wp2_with fail
          go_roundw
          case rel => exact ⟨t + 1, by omega, by go_num, hC'⟩
          case measure => simp [intOf]; omega
        · have hown : wr.ownsRow B 21 1 (.slice (some ⟨I.gm, 0, none⟩) 0 n) 0 (cellsOf []) := own_start hC
          obtain ⟨_, _, _, c6, _⟩ := hC.cf
          have HC : Hid (CR w0 B wr I n d mem rank bm2) := hC
          have HO : Hid (wr.ownsRow B 21 1 (.slice (some ⟨I.gm, 0, none⟩) 0 n) 0 (cellsOf [])) := hown
          clear hC hown
          go_wp2_with fail
          clear c6
          go_loopw [15, 16, 17] (fun mv iv jv wr' => ∃ (p q : Nat) (out : List Nat), p ≤ mid - lo ∧ q ≤ hi - mid ∧ mv = .slice (some ⟨I.gm, 0, none⟩) (p + q) n ∧ iv = .int .i64 p ∧ jv = .int .i64 q ∧ Hid (Mid mem (seg bm2 lo mid) (seg bm2 mid hi) p q out) ∧ CR w0 B wr' I n d mem rank bm2 ∧ Hid (wr'.ownsRow B 21 1 (.slice (some ⟨I.gm, 0, none⟩) (p + q) n) (p + q) (cellsOf out))) (fun _ iv jv _ => (mid - lo) + (hi - mid) - (intOf iv).toNat - (intOf jv).toNat)
          case atStart => exact ⟨0, 0, [], Nat.zero_le _, Nat.zero_le _, rfl, rfl, rfl, Mid.start mem _ _, HC.out, HO⟩
          case round =>
            obtain ⟨p, q, out, hp, hq, rfl, rfl, rfl, hM, hC, hO⟩ := hrel
            clear HC HO
            obtain ⟨c2, _, c5, _, _⟩ := hC.cf
            by_cases hql : q < hi - mid
            · have gq : ((q : Int) == ((hi - mid : Nat) : Int)) = false := by rw [beq_eq_false_iff_ne]; omega
              obtain ⟨x, hx⟩ : ∃ x, x = bm2 (mid + q) := ⟨_, rfl⟩
              have hxn : x < n := by rw [hx]; exact HR.out.2.2.2.2 _ (by omega) (by omega)
              have cx : wr.cell? ⟨I.gb, mid + q, none⟩ = some (.int .i32 (x : Int)) := by rw [hx]; exact hC.b.cell (by omega)
              have hSq : ∃ h : q < (seg bm2 mid hi).length, (seg bm2 mid hi)[q] = x := ⟨by rw [seg_len]; omega, by rw [seg_at, hx]⟩
              by_cases hpl : p < mid - lo
              · obtain ⟨y, hy⟩ : ∃ y, y = bm2 (lo + p) := ⟨_, rfl⟩
                have hyn : y < n := by rw [hy]; exact HR.out.2.2.2.2 _ (by omega) (by omega)
                have cy : wr.cell? ⟨I.gb, lo + p, none⟩ = some (.int .i32 (y : Int)) := by rw [hy]; exact hC.b.cell (by omega)
                have hFp : ∃ h : p < (seg bm2 lo mid).length, (seg bm2 lo mid)[p] = y := ⟨by rw [seg_len]; omega, by rw [seg_at, hy]⟩
                obtain ⟨fa, hfa, hfm⟩ := hC.a
                have cmy : wr.cell? ⟨I.ga, y * 6 + 1, none⟩ = some (.int .i64 (mem y)) := by rw [← hfm y hyn]; exact hfa.cell (by omega)
                have cmx : wr.cell? ⟨I.ga, x * 6 + 1, none⟩ = some (.int .i64 (mem x)) := by rw [← hfm x hxn]; exact hfa.cell (by omega)
                have HC : Hid (CR w0 B wr I n d mem rank bm2) := hC
                clear hfa hfm hC hy hx
                by_cases hmm : mem x ≤ mem y
                · have HM2 : Hid (Mid mem (seg bm2 lo mid) (seg bm2 mid hi) (p + 1) q (out ++ [y])) := by
                    obtain ⟨h1, e1⟩ := hFp
                    obtain ⟨h2, e2⟩ := hSq
                    have := hM.out.left mem HR.out.2.2.1 HR.out.2.2.2.1 h1 (.inr ⟨h2, by rw [e1, e2]; exact hmm⟩)
                    rw [e1] at this
                    exact this
                  clear hFp hSq hM
                  go_wp2_with fail
                  go_quiet (fail)
                  go_wp2_with (at_builtin; refine wpList_append_fits _ rfl (.tmp 204) (.tmp 209) 26 rfl B 21 i0 1 Try.underlying26 hinf hz1 I.gm (p + q) n (cellsOf out) rfl (own_kept hO.out (below_q wr nq _)) ⟨wr.heap.size, 0, none⟩ 1 1 [.int .i32 (y : Int)] rfl rfl (cell_one_new _ _ _) (cellsOf_one [y]) (by omega) ?_; intro w1 hown1 hgrow1)
                  have HN : Hid (CR w0 B w1 I n d mem rank bm2 ∧ w1.ownsRow B 21 1 (.slice (some ⟨I.gm, 0, none⟩) (p + 1 + q) n) (p + 1 + q) (cellsOf (out ++ [y]))) := by
                    refine ⟨(HC.out.same (below_q wr nq _)).grown hgrow1 hown1, ?_⟩
                    rw [cellsOf_snoc, show p + 1 + q = p + q + 1 by omega]
                    exact hown1
                  clear hown1 hgrow1 hO HC
                  go_wp2_with fail
                  go_roundw
                  case rel => exact ⟨p + 1, q, out ++ [y], by omega, by omega, by rw [show p + 1 + q = p + q + 1 by omega], by go_num, rfl, HM2, HN.out.1, HN.out.2⟩
                  case measure => simp [intOf]; omega
                · have HM2 : Hid (Mid mem (seg bm2 lo mid) (seg bm2 mid hi) p (q + 1) (out ++ [x])) := by
                    obtain ⟨h1, e1⟩ := hFp
                    obtain ⟨h2, e2⟩ := hSq
                    have := hM.out.right mem HR.out.2.2.1 HR.out.2.2.2.1 h2 (.inr ⟨h1, by rw [e1, e2]; omega⟩)
                    rw [e2] at this
                    exact this
                  clear hFp hSq hM
                  go_wp2_with fail
                  go_quiet (fail)
                  go_wp2_with (at_builtin; refine wpList_append_fits _ rfl (.tmp 213) (.tmp 218) 26 rfl B 21 i0 1 Try.underlying26 hinf hz1 I.gm (p + q) n (cellsOf out) rfl (own_kept hO.out (below_q wr nq _)) ⟨wr.heap.size, 0, none⟩ 1 1 [.int .i32 (x : Int)] rfl rfl (cell_one_new _ _ _) (cellsOf_one [x]) (by omega) ?_; intro w1 hown1 hgrow1)
                  have HN : Hid (CR w0 B w1 I n d mem rank bm2 ∧ w1.ownsRow B 21 1 (.slice (some ⟨I.gm, 0, none⟩) (p + (q + 1)) n) (p + (q + 1)) (cellsOf (out ++ [x]))) := by
                    refine ⟨(HC.out.same (below_q wr nq _)).grown hgrow1 hown1, ?_⟩
                    rw [cellsOf_snoc]
                    exact hown1
                  clear hown1 hgrow1 hO HC
                  go_wp2_with fail
                  go_roundw
                  case rel => exact ⟨p, q + 1, out ++ [x], by omega, by omega, rfl, rfl, by go_num, HM2, HN.out.1, HN.out.2⟩
                  case measure => simp [intOf]; omega
              · have gp : decide ((p : Int) < ((mid - lo : Nat) : Int)) = false := by simp; omega
                have HC : Hid (CR w0 B wr I n d mem rank bm2) := hC
                have HM2 : Hid (Mid mem (seg bm2 lo mid) (seg bm2 mid hi) p (q + 1) (out ++ [x])) := by
                  obtain ⟨h2, e2⟩ := hSq
                  have := hM.out.right mem HR.out.2.2.1 HR.out.2.2.2.1 h2 (.inl (by rw [seg_len]; omega))
                  rw [e2] at this
                  exact this
                clear hC hx hSq hM
                go_wp2_with fail
                go_quiet (fail)
                go_wp2_with (at_builtin; refine wpList_append_fits _ rfl (.tmp 213) (.tmp 218) 26 rfl B 21 i0 1 Try.underlying26 hinf hz1 I.gm (p + q) n (cellsOf out) rfl (own_kept hO.out (below_q wr nq _)) ⟨wr.heap.size, 0, none⟩ 1 1 [.int .i32 (x : Int)] rfl rfl (cell_one_new _ _ _) (cellsOf_one [x]) (by omega) ?_; intro w1 hown1 hgrow1)
                have HN : Hid (CR w0 B w1 I n d mem rank bm2 ∧ w1.ownsRow B 21 1 (.slice (some ⟨I.gm, 0, none⟩) (p + (q + 1)) n) (p + (q + 1)) (cellsOf (out ++ [x]))) := by
                  refine ⟨(HC.out.same (below_q wr nq _)).grown hgrow1 hown1, ?_⟩
                  rw [cellsOf_snoc]
                  exact hown1
                clear hown1 hgrow1 hO HC
                go_wp2_with fail
                go_roundw
                case rel => exact ⟨p, q + 1, out ++ [x], by omega, by omega, rfl, rfl, by go_num, HM2, HN.out.1, HN.out.2⟩
                case measure => simp [intOf]; omega
            · by_cases hpl : p < mid - lo
              · have gq : ((q : Int) == ((hi - mid : Nat) : Int)) = true := by rw [beq_iff_eq]; omega
                obtain ⟨y, hy⟩ : ∃ y, y = bm2 (lo + p) := ⟨_, rfl⟩
                have hyn : y < n := by rw [hy]; exact HR.out.2.2.2.2 _ (by omega) (by omega)
                have cy : wr.cell? ⟨I.gb, lo + p, none⟩ = some (.int .i32 (y : Int)) := by rw [hy]; exact hC.b.cell (by omega)
                have hFp : ∃ h : p < (seg bm2 lo mid).length, (seg bm2 lo mid)[p] = y := ⟨by rw [seg_len]; omega, by rw [seg_at, hy]⟩
                have HC : Hid (CR w0 B wr I n d mem rank bm2) := hC
                have HM2 : Hid (Mid mem (seg bm2 lo mid) (seg bm2 mid hi) (p + 1) q (out ++ [y])) := by
                  obtain ⟨h1, e1⟩ := hFp
                  have := hM.out.left mem HR.out.2.2.1 HR.out.2.2.2.1 h1 (.inl (by rw [seg_len]; omega))
                  rw [e1] at this
                  exact this
                clear hC hy hFp hM
                go_wp2_with fail
                go_quiet (fail)
                go_wp2_with (at_builtin; refine wpList_append_fits _ rfl (.tmp 204) (.tmp 209) 26 rfl B 21 i0 1 Try.underlying26 hinf hz1 I.gm (p + q) n (cellsOf out) rfl (own_kept hO.out (below_q wr nq _)) ⟨wr.heap.size, 0, none⟩ 1 1 [.int .i32 (y : Int)] rfl rfl (cell_one_new _ _ _) (cellsOf_one [y]) (by omega) ?_; intro w1 hown1 hgrow1)
                have HN : Hid (CR w0 B w1 I n d mem rank bm2 ∧ w1.ownsRow B 21 1 (.slice (some ⟨I.gm, 0, none⟩) (p + 1 + q) n) (p + 1 + q) (cellsOf (out ++ [y]))) := by
                  refine ⟨(HC.out.same (below_q wr nq _)).grown hgrow1 hown1, ?_⟩
                  rw [cellsOf_snoc, show p + 1 + q = p + q + 1 by omega]
                  exact hown1
                clear hown1 hgrow1 hO HC
                go_wp2_with fail
                go_roundw
                case rel => exact ⟨p + 1, q, out ++ [y], by omega, by omega, by rw [show p + 1 + q = p + q + 1 by omega], by go_num, rfl, HM2, HN.out.1, HN.out.2⟩
                case measure => simp [intOf]; omega
              · obtain ⟨cur, hcur, hsz, _⟩ := hC.b
                have hlen : out.length = p + q := hM.out.len
                have hsrc : ∀ j v, (cellsOf out)[j]? = some v → wr.cell? ((⟨I.gm, 0, none⟩ : Addr).add j) = some v := own_cells hO.out
                have HFIN : Hid (∃ bm', CR w0 B (wr.setRow I.gb (cur.toList.take lo ++ (cellsOf out ++ cur.toList.drop (lo + (cellsOf out).length))).toArray) I n d mem rank bm' ∧ Ran mem bm bm' lo hi) := by
                  refine ⟨_, hC.copied hcur lo out (by omega), ?_⟩
                  obtain ⟨r1, r2, _⟩ := HR.out
                  have hM2 := hM.out
                  rw [show p = (seg bm2 lo mid).length by rw [seg_len]; omega, show q = (seg bm2 mid hi).length by rw [seg_len]; omega] at hM2
                  obtain ⟨p1, p2⟩ := hM2.done
                  exact ran_merge r1 r2 (by omega) (by omega) p1 p2
                have hfit : lo + (cellsOf out).length ≤ cur.size := by rw [cellsOf_length]; omega
                have hmin : (cellsOf out).length = Nat.min (p + q) (hi - lo) := by rw [cellsOf_length, hlen, show hi - lo = p + q by omega]; exact (Nat.min_self _).symm
                have gp : decide ((p : Int) < ((mid - lo : Nat) : Int)) = false := by simp; omega
                have gq2 : decide ((q : Int) < ((hi - mid : Nat) : Int)) = false := by simp; omega
                clear hC hM hO c2
                have hcp := run_copy_row (P := Try.prog) wr 26 26 3 21 I.gb lo (hi - lo) (n - lo) ⟨I.gm, 0, none⟩ (p + q) n cur 21 (cellsOf out) Try.underlying26 (by kernel_rfl) hcur hmin hsrc hfit (cellsOf_one out)
                obtain ⟨wz, hwz⟩ : ∃ wz, wz = wr.setRow I.gb (cur.toList.take lo ++ (cellsOf out ++ cur.toList.drop (lo + (cellsOf out).length))).toArray := ⟨_, rfl⟩
                rw [List.append_assoc] at hcp
                rw [← hwz] at hcp HFIN
                clear hwz hmin hsrc hfit hcur
                go_wp2_with fail
                first | go_end0 | refine bodyPost_ret (results_none rfl _ _ _) rfl ?_
                exact ⟨rfl, HFIN.out⟩

theorem run21_any (m : Nat) : ∀ (lo hi : Nat) (w : World) (bm : Nat → Nat), hi - lo ≤ m → CR w0 B w I n d mem rank bm → lo < hi → hi ≤ n →
    Calls Try.prog 21 #[.pointer (some ⟨I.cb, 0, none⟩), .int .i64 (lo : Int), .int .i64 (hi : Int)] w fun e w' => e = .returned (.tuple #[]) ∧ ∃ bm', CR w0 B w' I n d mem rank bm' ∧ Ran mem bm bm' lo hi := by
  induction m with
  | zero => intro lo hi w bm h1 _ h2 _; omega
  | succ m ih =>
    intro lo hi w bm h1 hC h2 h3
    by_cases h4 : hi = lo + 1
    · subst h4
      refine (run21_one hC lo (by omega)).mono ?_
      rintro e w' ⟨rfl, h⟩
      exact ⟨rfl, _, h, ran_one mem bm lo⟩
    · exact run21_more hC lo hi (by omega) h3 m (by omega) (fun lo hi w bm h => ih lo hi w bm h)

theorem run21 (h : CR w0 B w I n d mem rank bm) (lo hi : Nat) (h1 : lo < hi) (h2 : hi ≤ n) :
    Calls Try.prog 21 #[.pointer (some ⟨I.cb, 0, none⟩), .int .i64 (lo : Int), .int .i64 (hi : Int)] w fun e w' => e = .returned (.tuple #[]) ∧ ∃ bm', CR w0 B w' I n d mem rank bm' ∧ Ran mem bm bm' lo hi :=
  run21_any (hi - lo) lo hi w bm (Nat.le_refl _) h h1 h2
end Go.Proofs.Qxb6001285a
