/- addWeight, weightUpTo. -/
import Derived.Test.Qxb6001285aBase
namespace Go.Proofs.Qxb6001285a
open Go.RowKit
set_option linter.unusedVariables false

variable {w w0 : World} {B n d : Nat} {I : Ids} {mem rank : Nat → Int} {bm : Nat → Nat}

theorem lowbit32 (k : Nat) (h0 : 0 < k) (h1 : k ≤ 100000) : ∃ b : Nat, bits .and .i32 (k : Int) (-(k : Int)) = (b : Int) ∧ 1 ≤ b ∧ b ≤ k := by
  obtain ⟨h2, h3⟩ := lowbit k h0 (by omega)
  refine ⟨_, ?_, h2, h3⟩
  have e1 : (BitVec.ofInt 32 (k : Int)).toNat = k := by
    rw [BitVec.toNat_ofInt]
    omega
  have e2 : (BitVec.ofInt 32 (-(k : Int))).toNat = 2 ^ 32 - k := by
    rw [BitVec.toNat_ofInt]
    omega
  show IntKind.i32.wrap ((BitVec.ofInt 32 (k : Int) &&& BitVec.ofInt 32 (-(k : Int))).toNat : Int) = _
  rw [BitVec.toNat_and, e1, e2, IntWalk.i32_left, IntWalk.wrap32_in]
  omega

/-- the lowest bit of k, as the Go text reckons it. -/
def lowOf (k : Nat) : Nat := (bits .and .i32 (k : Int) (-(k : Int))).toNat
theorem lowOf_spec (k : Nat) (h0 : 0 < k) (h1 : k ≤ 100000) : bits .and .i32 (k : Int) (-(k : Int)) = (lowOf k : Int) ∧ 1 ≤ lowOf k ∧ lowOf k ≤ k := by
  obtain ⟨b, hb, h2, h3⟩ := lowbit32 k h0 h1
  have e : lowOf k = b := by unfold lowOf; rw [hb]; simp
  rw [e]
  exact ⟨hb, h2, h3⟩

/-- what weightUpTo gives. -/
def wsum (ft : Nat → Int) : Nat → Nat → Int → Int
  | 0, _, z => z
  | fuel + 1, k, z => if k = 0 then z else wsum ft fuel (k - lowOf k) (wrap64 (z + ft k))
theorem wsum_zero (ft : Nat → Int) (fuel : Nat) (z : Int) : wsum ft fuel 0 z = z := by cases fuel <;> simp [wsum]
theorem wsum_step (ft : Nat → Int) (fuel k : Nat) (z : Int) (h : 0 < k) : wsum ft (fuel + 1) k z = wsum ft fuel (k - lowOf k) (wrap64 (z + ft k)) := by
  simp [wsum, Nat.ne_of_gt h]

set_option maxHeartbeats 400000 in
theorem weight25 {ft : Nat → Int} (hft : IntRow w I.gt 2 d .i64 ft) (h : CR w0 B w I n d mem rank bm) (r : Nat) (hr : r < d) :
    Calls Try.prog 25 #[.pointer (some ⟨I.cb, 0, none⟩), .int .i32 (r : Int)] w fun e w' => e = .returned (.int .i64 (wsum ft r r 0)) ∧ w' = w := by
  obtain ⟨_, _, _, _, c7⟩ := h.cf
  have hd := h.hd
  have HT : Hid (IntRow w I.gt 2 d .i64 ft) := hft
  clear hft h
  obtain ⟨W, hW⟩ : ∃ W, W = wsum ft r r 0 := ⟨_, rfl⟩
  rw [← hW]
  go_enter Try.func25, Try.ntmps25
  go_wp2
  go_loop [1, 5] (fun r s => ∃ (k fuel : Nat) (z : Int), k < d ∧ r = .int .i32 (k : Int) ∧ s = .int .i64 z ∧ Hid (k ≤ fuel) ∧ Hid (wsum ft fuel k z = W)) (fun r _ => (intOf r).toNat)
  case atStart => exact ⟨r, r, 0, hr, rfl, rfl, Nat.le_refl r, hW.symm⟩
  case round =>
    obtain ⟨k, fuel, z, hk, rfl, rfl, hf, hz⟩ := hrel
    by_cases hpos : 0 < k
    · have ct := HT.out.cell hk
      obtain ⟨hb, hb1, hb2⟩ := lowOf_spec k hpos (by omega)
      have hz2 : Hid (∃ fuel, k - lowOf k ≤ fuel ∧ wsum ft fuel (k - lowOf k) (wrap64 (z + ft k)) = W) := by
        have hf' := hf.out
        obtain ⟨f, rfl⟩ : ∃ f, fuel = f + 1 := ⟨fuel - 1, by omega⟩
        exact ⟨f, by omega, by rw [← wsum_step ft f k z hpos]; exact hz.out⟩
      clear hz hf
      go_wp2
      go_round
      case rel =>
        obtain ⟨f, h1, h2⟩ := hz2.out
        exact ⟨k - lowOf k, f, _, by omega, by go_num, rfl, h1, h2⟩
      case measure => simp [intOf]; omega
    · have hk0 : k = 0 := by omega
      subst hk0
      have hzz : z = W := by have := hz.out; rw [wsum_zero] at this; exact this
      go_wp2
      go_ret
      exact ⟨rfl, rfl⟩

set_option maxHeartbeats 400000 in
theorem add24 (h : CR w0 B w I n d mem rank bm) (a : Nat) (ha : a < n) (z : Int) :
    Calls Try.prog 24 #[.pointer (some ⟨I.cb, 0, none⟩), .int .i32 (a : Int), .int .i64 z] w fun e w' => e = .returned (.tuple #[]) ∧ CR w0 B w' I n d mem rank bm := by
  obtain ⟨_, c4, _, _, c7⟩ := h.cf
  have hd := h.hd
  have hn := h.hn
  have cr := h.r.cell ha
  obtain ⟨hr1, hr2⟩ := h.rk a ha
  obtain ⟨r, hr⟩ := Int.eq_ofNat_of_zero_le (show 0 ≤ rank a by omega)
  rw [hr] at cr hr1 hr2
  have HC : Hid (CR w0 B w I n d mem rank bm) := h
  clear h hr
  go_enter Try.func24, Try.ntmps24
  go_wp2
  go_loopw [6] (fun v wr => ∃ k : Nat, 1 ≤ k ∧ k ≤ 100000 ∧ v = .int .i32 (k : Int) ∧ CR w0 B wr I n d mem rank bm) (fun v _ => d - (intOf v).toNat)
  case atStart => exact ⟨r, by omega, by omega, rfl, HC.out⟩
  case round =>
    obtain ⟨k, hk1, hk2, rfl, hC⟩ := hrel
    clear c4 c7 cr HC
    obtain ⟨_, _, _, _, c7⟩ := hC.cf
    by_cases hlt : k < d
    · obtain ⟨ft, hft⟩ := hC.t
      have ct := hft.cell hlt
      have cz := hft.free k
      obtain ⟨b, hb, hb1, hb2⟩ := lowbit32 k (by omega) (by omega)
      have HC2 : Hid (∀ z, CR w0 B (wr.setCell ⟨I.gt, k, none⟩ (.int .i64 z)) I n d mem rank bm) := fun z => hC.setT k z
      clear hft hC
      go_wp2
      go_roundw
      case rel => exact ⟨k + b, by omega, by omega, by go_num, HC2.out _⟩
      case measure => simp [intOf]; omega
    · go_wp2
      go_end0
      exact ⟨rfl, hC⟩
end Go.Proofs.Qxb6001285a
