/- FnCountRunOrdersByMemory: the walk. -/
import Derived.Test.Qxb6001285aCount
import Derived.Test.Qxb6001285aRanks
namespace Go.Proofs.Qxb6001285a
open Go.RowKit
set_option linter.unusedVariables false

theorem bytes16 (a0 a1 a2 a3 : Option Addr) (l0 c0 l1 c1 l2 c2 l3 c3 : Nat) (w : World) (h0 : l0 ≤ maxLen) (h1 : l1 ≤ maxLen) (h2 : l2 ≤ maxLen) (h3 : l3 ≤ maxLen) :
    Calls Try.prog 16 #[.slice a0 l0 c0, .slice a1 l1 c1, .slice a2 l2 c2, .slice a3 l3 c3] w fun e w' => IsBool e ∧ w = w' := by
  go_enter Try.func16, Try.ntmps16
  go_wp2
  all_goals
    go_ret
    exact ⟨⟨_, rfl⟩, rfl⟩

/-- A slice that came in: its elements. -/
def Src (w : World) (a : Option Addr) (len : Nat) (f : Nat → Int) : Prop := len = 0 ∨ ∃ b off, a = some ⟨b, off, none⟩ ∧ b < w.heap.size ∧ ∀ j, j < len → w.cell? ⟨b, off + j, none⟩ = some (.int .i64 (f j))

def Copied (w : World) (n : Nat) (f : Nat → Int) (e : Ending) (w' : World) : Prop := ∃ g, e = .returned (.slice (some ⟨g, 0, none⟩) n n) ∧ IntRow w' g 2 n .i64 f ∧ Below w.heap.size w w'

theorem copy13s {w w' : World} {a : Option Addr} {n cap : Nat} {f : Nat → Int} (h : Src w a n f) (hb : Below w.heap.size w w') (hn : n ≤ 4096) (hpos : 0 < n) : Calls Try.prog 13 #[.slice a n cap] w' (Copied w' n f) := by
  rcases h with h | ⟨b, off, rfl, hl, hc⟩
  · omega
  · refine (copy13 b off cap hn hpos (Nat.lt_of_lt_of_le hl hb.size) (fun j hj => (hb.cell (by exact hl)).trans (hc j hj))).mono ?_
    rintro e w2 ⟨rfl, h1, h2⟩
    exact ⟨_, rfl, h1, h2⟩

/-- Block g is a row of Booleans. -/
def BoolRow (w : World) (g n : Nat) (s : Nat → Bool) : Prop := ∃ cur, w.heap[g]? = some (.cells cur 4 (0, 0)) ∧ cur.size = n ∧ ∀ i, i < n → cur[i]? = some (.bool (s i))
theorem BoolRow.cell {w : World} {g n : Nat} {s : Nat → Bool} (h : BoolRow w g n s) {i : Nat} (hi : i < n) : w.cell? ⟨g, i, none⟩ = some (.bool (s i)) := by
  obtain ⟨cur, hh, _, hc⟩ := h
  rw [rcell hh, hc i hi]
theorem BoolRow.free {w : World} {g n : Nat} {s : Nat → Bool} (h : BoolRow w g n s) (i : Nat) : w.frozen? ⟨g, i, none⟩ = false := by
  obtain ⟨cur, hh, _, hc⟩ := h
  exact rfree hh i
theorem BoolRow.set {w : World} {g n : Nat} {s : Nat → Bool} (h : BoolRow w g n s) (i : Nat) : BoolRow (w.setCell ⟨g, i, none⟩ (.bool true)) g n (fun j => if j = i then true else s j) := by
  obtain ⟨cur, hh, hs, hc⟩ := h
  refine ⟨_, hset_same hh i _, by simpa using hs, fun j hj => ?_⟩
  rw [Array.getElem?_setIfInBounds]
  show _ = some (Value.bool (if j = i then true else s j))
  by_cases e : i = j
  · subst e
    rw [if_pos rfl, if_pos (by omega), if_pos rfl]
  · rw [if_neg e, if_neg (fun e' => e e'.symm), hc j hj]

theorem cell_other {w : World} {b b' : Nat} (h : b' ≠ b) (o o' : Nat) (v : Value) : (w.setCell ⟨b, o, none⟩ v).cell? ⟨b', o', none⟩ = w.cell? ⟨b', o', none⟩ := by
  simp only [World.cell?]
  rw [hset_other h]

theorem info4b : (Try.prog.info? 4).map (fun i => (i.zero, i.size, i.bytes)) = some (some (.bool false), 1, 1) := by kernel_rfl
def mkB (n : Nat) : Array Value := madeCells #[.bool false] (n * 1)
theorem make31b (n : Nat) (hn : n ≤ 5000) (w : World) : (Instr.makeSlice 31 (.int .i64 (n : Int)) (.int .i64 (n : Int))).run Try.prog w = .ok (.slice (some ⟨w.heap.size, 0, none⟩) n n) (w.alloc (.cells (mkB n) 4)) := by
  obtain ⟨i0, hi, hz0, hz1, hz2⟩ := info_parts info4b
  have := run_make (P := Try.prog) w 31 4 i0 _ Try.underlying31 hi hz0 .i64 .i64 (n : Int) (n : Int) (by omega) (by omega) (by rw [hz2]; omega) (by omega)
  rw [hz1] at this
  exact this
theorem madeB (n i : Nat) (hi : i < n) : (mkB n)[i]? = some (Value.bool false) := by
  unfold mkB madeCells
  rw [Nat.mul_one]
  simp [hi, Nat.mod_one]

theorem seen_same {w6 w w' : World} {n k : Nat} {bm : Nat → Nat} (h : ∃ s, BoolRow w w6.heap.size n s ∧ (∀ p, s p = true → ∃ j, j < k ∧ bm j = p) ∧ Below w6.heap.size w6 w) (hb : Below w.heap.size w w') :
    ∃ s, BoolRow w' w6.heap.size n s ∧ (∀ p, s p = true → ∃ j, j < k ∧ bm j = p) ∧ Below w6.heap.size w6 w' := by
  obtain ⟨s, ⟨cur, hh, hs, hc⟩, h2, h3⟩ := h
  exact ⟨s, ⟨cur, (hb.block _ (lt_of_block hh)).trans hh, hs, hc⟩, h2, h3.trans (hb.mono h3.size)⟩

/-- What the law looks at. -/
theorem order_facts {n : Nat} {bm : Nat → Nat} {mem : Nat → Int} (hp : (seg bm 0 n).Perm (List.range' 0 n)) (hf : Falls mem (seg bm 0 n)) :
    (∀ k, k < n → bm k < n) ∧ (∀ j k, j < k → k < n → bm j ≠ bm k) ∧ (∀ k, k + 1 < n → mem (bm (k + 1)) ≤ mem (bm k)) := by
  have hl := seg_len bm 0 n
  have hat : ∀ k, k < n → ∃ h : k < (seg bm 0 n).length, (seg bm 0 n)[k] = bm k := fun k hk => ⟨by rw [hl]; omega, by rw [seg_at]; simp⟩
  refine ⟨?_, ?_, ?_⟩
  · intro k hk
    obtain ⟨h, e⟩ := hat k hk
    have : bm k ∈ List.range' 0 n := hp.mem_iff.1 (by rw [← e]; exact List.getElem_mem _)
    rw [List.mem_range'_1] at this
    omega
  · intro j k hjk hk
    have hnd : (seg bm 0 n).Nodup := hp.nodup_iff.2 List.nodup_range'
    obtain ⟨h1, e1⟩ := hat j (by omega)
    obtain ⟨h2, e2⟩ := hat k hk
    rw [← e1, ← e2]
    exact (List.pairwise_iff_getElem.1 hnd) j k h1 h2 hjk
  · intro k hk
    obtain ⟨h1, e1⟩ := hat k (by omega)
    obtain ⟨h2, e2⟩ := hat (k + 1) hk
    have := (List.pairwise_iff_getElem.1 hf) k (k + 1) h1 h2 (by omega)
    rw [e1, e2] at this
    exact this

set_option maxRecDepth 100000 in
set_option maxHeartbeats 4000000 in
theorem law4 (a0 a1 a2 a3 : Option Addr) (l0 c0 l1 c1 l2 c2 l3 c3 : Nat) (f0 f1 f2 f3 : Nat → Int) (w : World) (h0 : l0 ≤ maxLen) (h1 : l1 ≤ maxLen) (h2 : l2 ≤ maxLen) (h3 : l3 ≤ maxLen)
    (s0 : Src w a0 l0 f0) (s1 : Src w a1 l1 f1) (s2 : Src w a2 l2 f2) (s3 : Src w a3 l3 f3) :
    Calls Try.prog 4 #[.slice a0 l0 c0, .slice a1 l1 c1, .slice a2 l2 c2, .slice a3 l3 c3] w fun e w' => e = .returned (.bool true) ∧ Below w.heap.size w w' := by
  have HS : Hid (Src w a0 l0 f0 ∧ Src w a1 l1 f1 ∧ Src w a2 l2 f2 ∧ Src w a3 l3 f3) := ⟨s0, s1, s2, s3⟩
  clear s0 s1 s2 s3
  go_enter Try.func4, Try.ntmps4
  go_wp2_with fail
  refine (bytes16 a0 a1 a2 a3 l0 c0 l1 c1 l2 c2 l3 c3 w h0 h1 h2 h3).mono ?_
  rintro e _ ⟨⟨x, rfl⟩, rfl⟩
  cases x
  · go_wp2_with fail
    go_ret
    exact ⟨rfl, Below.refl _ _⟩
  by_cases hb : l0 ≤ 4096 ∧ l1 ≤ 4096 ∧ l2 ≤ 4096 ∧ l3 ≤ 4096
  · obtain ⟨hb0, hb1, hb2, hb3⟩ := hb
    by_cases he : l0 ≠ 0 ∧ l0 = l1 ∧ l0 = l2 ∧ l0 = l3
    · obtain ⟨he0, rfl, rfl, rfl⟩ := he
      have hpos : 0 < l0 := by omega
      clear h1 h2 h3 hb1 hb2 hb3
      go_wp2_with fail
      refine (copy13s HS.out.1 (Below.refl _ _) hb0 hpos).mono ?_
      rintro e w1 ⟨g0, rfl, r0, b1⟩
      go_wp2_with fail
      refine (copy13s HS.out.2.1 b1 hb0 hpos).mono ?_
      rintro e w2 ⟨g1, rfl, r1, b2⟩
      have B2 : Below w.heap.size w w2 := b1.trans (b2.mono b1.size)
      go_wp2_with fail
      refine (copy13s HS.out.2.2.1 B2 hb0 hpos).mono ?_
      rintro e w3 ⟨g2, rfl, r2, b3⟩
      have B3 : Below w.heap.size w w3 := B2.trans (b3.mono B2.size)
      go_wp2_with fail
      refine (copy13s HS.out.2.2.2 B3 hb0 hpos).mono ?_
      rintro e w4 ⟨g3, rfl, r3, b4⟩
      have B4 : Below w.heap.size w w4 := B3.trans (b4.mono B3.size)
      have r2' : IntRow w4 g2 2 l0 .i64 f2 := r2.kept (b4.block _ r2.lt)
      have r1' : IntRow w4 g1 2 l0 .i64 f1 := (r1.kept (b3.block _ r1.lt)).kept (b4.block _ (Nat.lt_of_lt_of_le r1.lt b3.size))
      have r0' : IntRow w4 g0 2 l0 .i64 f0 := ((r0.kept (b2.block _ r0.lt)).kept (b3.block _ (Nat.lt_of_lt_of_le r0.lt b2.size))).kept (b4.block _ (Nat.lt_of_lt_of_le r0.lt (Nat.le_trans b2.size b3.size)))
      clear r0 r1 r2 b1 b2 B2 b3 B3 b4 HS
      go_wp2_with fail
      refine (ranks14 g2 r2' hb0 hpos).mono ?_
      rintro e w5 ⟨d, gr, rank, rfl, hr, hrk, hdn, _, b5⟩
      have B5 : Below w.heap.size w w5 := B4.trans (b5.mono B4.size)
      have q0 := r0'.kept (b5.block _ r0'.lt)
      have q1 := r1'.kept (b5.block _ r1'.lt)
      have q2 := r2'.kept (b5.block _ r2'.lt)
      have q3 := r3.kept (b5.block _ r3.lt)
      clear r0' r1' r2' r3 b5 B4
      have HQ : Hid (IntRow w5 g0 2 l0 .i64 f0 ∧ IntRow w5 g1 2 l0 .i64 f1 ∧ IntRow w5 g2 2 l0 .i64 f2 ∧ IntRow w5 g3 2 l0 .i64 f3 ∧ IntRow w5 gr 21 l0 .i32 rank ∧ ∀ i, i < l0 → 1 ≤ rank i ∧ rank i ≤ (d : Int)) := ⟨q0, q1, q2, q3, hr, hrk⟩
      clear q0 q1 q2 q3 hr hrk
      go_wp2_with fail
      obtain ⟨q0, q1, q2, q3, hr, hrk⟩ := HQ.out
      refine (count15 (d := d + 1) g0 g1 g2 g3 gr q0 q1 q2 q3 hr (fun i hi => ⟨(hrk i hi).1, by have := (hrk i hi).2; omega⟩) hb0 hpos (by omega)).mono ?_
      rintro e w6 ⟨v, v2, gb, bm, rfl, hbm, hperm, hfalls, b6⟩
      have B6 : Below w.heap.size w w6 := B5.trans (b6.mono B5.size)
      have hm6 : IntRow w6 g1 2 l0 .i64 f1 := q1.kept (b6.block _ q1.lt)
      have HF := Hid.mk2 (order_facts hperm hfalls)
      have HW : Hid (IntRow w6 gb 21 l0 .i32 (fun i => (bm i : Int)) ∧ IntRow w6 g1 2 l0 .i64 f1) := ⟨hbm, hm6⟩
      have lb := hbm.lt
      have lm := hm6.lt
      have HB6 : Hid (Below w.heap.size w w6) := B6
      clear q0 q1 q2 q3 hr hrk b6 B5 B6 hbm hm6 hperm hfalls HQ
      have m31 := make31b l0 (by omega)
      have HG : Hid (∃ s, BoolRow (w6.alloc (.cells (mkB l0) 4)) w6.heap.size l0 s ∧ (∀ p, s p = true → ∃ j, j < 0 ∧ bm j = p) ∧ Below w6.heap.size w6 (w6.alloc (.cells (mkB l0) 4))) :=
        ⟨fun _ => false, ⟨_, hal_eq _ _ _ rfl, by show (madeCells _ _).size = l0; rw [size_madeCells]; omega, fun i hi => madeB l0 i hi⟩, fun p hp => (by cases hp), (Below.refl _ _).alloc (Nat.le_refl _) _⟩
      go_wp2_with fail
      clear m31
      go_loopw [97] (fun kv wr => ∃ k : Nat, k ≤ l0 ∧ kv = .int .i64 k ∧ Hid (∃ s, BoolRow wr w6.heap.size l0 s ∧ (∀ p, s p = true → ∃ j, j < k ∧ bm j = p) ∧ Below w6.heap.size w6 wr)) (fun kv _ => l0 - (intOf kv).toNat)
      case atStart => exact ⟨0, Nat.zero_le _, rfl, HG⟩
      case round =>
        obtain ⟨k, hk, rfl, HS⟩ := hrel
        clear HG
        obtain ⟨s, hs, hsp, hbel⟩ := HS.out
        by_cases hlt : k < l0
        · obtain ⟨p, hp⟩ : ∃ p, p = bm k := ⟨_, rfl⟩
          have hpn : p < l0 := by rw [hp]; exact HF.out.1 k hlt
          have hsf : s p = false := by
            cases e : s p
            · rfl
            · exfalso
              obtain ⟨j, h1, h2⟩ := hsp p e
              exact HF.out.2.1 j k h1 hlt (h2.trans hp)
          have cp : wr.cell? ⟨gb, k, none⟩ = some (.int .i32 (p : Int)) := by rw [hp]; exact (hbel.cell (by exact lb)).trans (HW.out.1.cell hlt)
          have cs : wr.cell? ⟨w6.heap.size, p, none⟩ = some (.bool false) := by rw [← hsf]; exact hs.cell hpn
          have fs := hs.free p
          have cm : wr.cell? ⟨g1, p, none⟩ = some (.int .i64 (f1 p)) := (hbel.cell (by exact lm)).trans (HW.out.2.cell hpn)
          have HN : Hid (∃ s, BoolRow (wr.setCell ⟨w6.heap.size, p, none⟩ (.bool true)) w6.heap.size l0 s ∧ (∀ p, s p = true → ∃ j, j < k + 1 ∧ bm j = p) ∧ Below w6.heap.size w6 (wr.setCell ⟨w6.heap.size, p, none⟩ (.bool true))) := by
            refine ⟨_, hs.set p, fun q hq => ?_, hbel.setCell (Nat.le_refl _) _⟩
            by_cases e : q = p
            · exact ⟨k, by omega, by rw [e, hp]⟩
            · simp only [e, if_false] at hq
              obtain ⟨j, h1, h2⟩ := hsp q hq
              exact ⟨j, by omega, h2⟩
          have n1 : ¬ gb = w6.heap.size := by omega
          have n2 : ¬ g1 = w6.heap.size := by omega
          by_cases hk0 : k = 0
          · subst hk0
            clear hs hsp hbel HS hsf hp
            go_wp2_with fail
            obtain ⟨wz, hwz⟩ : ∃ wz, wz = wr.setCell ⟨w6.heap.size, p, none⟩ (.bool true) := ⟨_, rfl⟩
            rw [← hwz] at HN ⊢
            clear hwz cp cs fs cm
            go_quiet (fail)
            go_wp2_with fail
            have HN2 := Hid.mk2 (seen_same HN.out (below_drewN wz nq))
            go_roundw
            case rel => exact ⟨0 + 1, by omega, by go_num, HN2⟩
            case measure => simp [intOf]; omega
          · obtain ⟨k', rfl⟩ : ∃ k', k = k' + 1 := ⟨k - 1, by omega⟩
            obtain ⟨p', hp'⟩ : ∃ p', p' = bm k' := ⟨_, rfl⟩
            have hpn' : p' < l0 := by rw [hp']; exact HF.out.1 k' (by omega)
            have cp' : wr.cell? ⟨gb, k', none⟩ = some (.int .i32 (p' : Int)) := by rw [hp']; exact (hbel.cell (by exact lb)).trans (HW.out.1.cell (by omega))
            have cm' : wr.cell? ⟨g1, p', none⟩ = some (.int .i64 (f1 p')) := (hbel.cell (by exact lm)).trans (HW.out.2.cell hpn')
            have hle : f1 p ≤ f1 p' := by rw [hp, hp']; exact HF.out.2.2 k' hlt
            clear hs hsp hbel HS hsf hp hp'
            go_wp2_with fail
            obtain ⟨wz, hwz⟩ : ∃ wz, wz = wr.setCell ⟨w6.heap.size, p, none⟩ (.bool true) := ⟨_, rfl⟩
            have dp : wz.cell? ⟨gb, k', none⟩ = some (.int .i32 (p' : Int)) := by rw [hwz, cell_other n1]; exact cp'
            have dm : wz.cell? ⟨g1, p, none⟩ = some (.int .i64 (f1 p)) := by rw [hwz, cell_other n2]; exact cm
            have dm' : wz.cell? ⟨g1, p', none⟩ = some (.int .i64 (f1 p')) := by rw [hwz, cell_other n2]; exact cm'
            rw [← hwz] at HN ⊢
            clear hwz cp cs fs cm cp' cm'
            have hgt : (0 : Int) < (k' : Int) + 1 := by omega
            go_quiet (fail)
            go_wp2_with fail
            have HN2 := Hid.mk2 (seen_same HN.out (below_drewN wz nq))
            go_roundw
            case rel => exact ⟨k' + 1 + 1, by omega, by go_num, HN2⟩
            case measure => simp [intOf]; omega
        · go_wp2_with fail
          go_ret
          exact ⟨rfl, HB6.out.trans (hbel.mono HB6.out.size)⟩
    · by_cases t0 : l0 = 0
      · clear he HS
        go_wp2_with fail
        go_ret
        exact ⟨rfl, Below.refl _ _⟩
      · by_cases t1 : l0 = l1
        · subst t1
          by_cases t2 : l0 = l2
          · subst t2
            by_cases t3 : l0 = l3
            · exact absurd ⟨t0, rfl, rfl, t3⟩ he
            · clear he HS
              have t3b : ((l3 : Int) != (l0 : Int)) = true := by rw [bne_iff_ne]; omega
              go_wp2_with fail
              go_ret
              exact ⟨rfl, Below.refl _ _⟩
          · clear he HS
            go_wp2_with fail
            go_ret
            exact ⟨rfl, Below.refl _ _⟩
        · clear he HS
          go_wp2_with fail
          go_ret
          exact ⟨rfl, Below.refl _ _⟩
  · by_cases t0 : l0 ≤ 4096
    · by_cases t1 : l1 ≤ 4096
      · by_cases t2 : l2 ≤ 4096
        · have t3 : ¬ l3 ≤ 4096 := fun h => hb ⟨t0, t1, t2, h⟩
          clear hb HS
          go_wp2_with fail
          go_ret
          exact ⟨rfl, Below.refl _ _⟩
        · clear hb HS
          go_wp2_with fail
          go_ret
          exact ⟨rfl, Below.refl _ _⟩
      · clear hb HS
        go_wp2_with fail
        go_ret
        exact ⟨rfl, Below.refl _ _⟩
    · clear hb HS
      go_wp2_with fail
      go_ret
      exact ⟨rfl, Below.refl _ _⟩
end Go.Proofs.Qxb6001285a
