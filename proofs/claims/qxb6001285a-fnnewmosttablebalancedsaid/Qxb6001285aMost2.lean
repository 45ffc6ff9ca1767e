/- ZZNewMostTable; the two laws over it. -/
import Derived.Test.Qxb6001285aMost
namespace Go.Proofs.Qxb6001285a
open Go.RowKit
set_option linter.unusedVariables false

theorem ret_bool {a : Bool} (h : a = true) : Ending.returned (.bool a) = .returned (.bool true) := by rw [h]

set_option maxHeartbeats 1000000 in
theorem zz18 (n : Nat) (w : World) (hn : n ≤ 65536) :
    Calls Try.prog 18 #[.int .i64 n, .agg #[.int .i64 0, .int .i64 0, .int .i64 0, .int .i64 0, .int .i64 0, .int .i64 0]] w fun e w' => ∃ g0 g1 g2 bl s : Nat, e = .returned (.tuple #[.slice (some ⟨g0, 0, none⟩) n n, .slice (some ⟨g1, 0, none⟩) bl bl, .int .i64 s, .slice (some ⟨g2, 0, none⟩) bl bl]) ∧
      bl = (n + 2 ^ s - 1) / 2 ^ s ∧ 3 ≤ s ∧ s ≤ 8 ∧ n ≤ 2 ^ (2 * s) ∧ (s = 3 ∨ 2 ^ (2 * (s - 1)) < n) ∧ Below w.heap.size w w' := by
  have HN : Hid (∀ w, Calls Try.prog 22 #[.int .i64 n, .agg #[.int .i64 0, .int .i64 0, .int .i64 0, .int .i64 0, .int .i64 0, .int .i64 0]] w fun e w' => ∃ g0 g1 g2 bl s : Nat, e = .returned (.agg #[.slice (some ⟨g0, 0, none⟩) n n, .slice (some ⟨g1, 0, none⟩) bl bl, .int .i64 s, .slice (some ⟨g2, 0, none⟩) bl bl]) ∧
      bl = (n + 2 ^ s - 1) / 2 ^ s ∧ 3 ≤ s ∧ s ≤ 8 ∧ n ≤ 2 ^ (2 * s) ∧ (s = 3 ∨ 2 ^ (2 * (s - 1)) < n) ∧ Below w.heap.size w w') := fun w => new22 n w hn
  go_enter Try.func18, Try.ntmps18
  go_wp2_with fail
  refine (HN.out _).mono ?_
  rintro e w1 ⟨g0, g1, g2, bl, s, rfl, hbl, h1, h2, h3, h4, hb⟩
  have HF : Hid (bl = (n + 2 ^ s - 1) / 2 ^ s ∧ n ≤ 2 ^ (2 * s) ∧ (s = 3 ∨ 2 ^ (2 * (s - 1)) < n)) := ⟨hbl, h3, h4⟩
  clear hbl h3 h4 HN
  have hb' : Below w.heap.size w w1 := ((Below.refl _ _).alloc (Nat.le_refl _) _).trans (hb.mono (by simp))
  clear hb
  go_wp2
  go_region
  all_goals go_wp2
  refine bodyPost_ret (v := .tuple #[.slice (some ⟨g0, 0, none⟩) n n, .slice (some ⟨g1, 0, none⟩) bl bl, .int .i64 s, .slice (some ⟨g2, 0, none⟩) bl bl]) (by simp [results, Try.results18, go_sem]) rfl ⟨g0, g1, g2, bl, s, rfl, HF.out.1, h1, h2, HF.out.2.1, HF.out.2.2, ?_⟩
  exact (hb'.alloc hb'.size _).drew

set_option maxHeartbeats 1000000 in
theorem walk6 (a0 : Int) (w0 : -9223372036854775808 ≤ a0 ∧ a0 ≤ 9223372036854775807) (w : World) :
    Calls Try.prog 6 #[.int .i64 a0] w fun e w' => e = .returned (.bool true) ∧ Below w.heap.size w w' := by
  obtain ⟨hlo, hhi⟩ := w0
  by_cases hneg : a0 < 0
  · go_enter Try.func6, Try.ntmps6
    go_wp2
    go_ret
    exact ⟨rfl, Below.refl _ _⟩
  by_cases hbig : 65536 < a0
  · have hd : decide (a0 < 0) = false := by simpa using hneg
    go_enter Try.func6, Try.ntmps6
    go_wp2
    go_ret
    exact ⟨rfl, Below.refl _ _⟩
  obtain ⟨n, rfl⟩ := Int.eq_ofNat_of_zero_le (show 0 ≤ a0 by omega)
  have hn : n ≤ 65536 := by omega
  have hd : decide ((n : Int) < 0) = false := by simp
  have hd2 : decide (65536 < (n : Int)) = false := by simp; omega
  go_enter Try.func6, Try.ntmps6
  go_wp2_with fail
  refine (zz18 n w hn).mono ?_
  rintro e w1 ⟨g0, g1, g2, bl, s, rfl, hbl, h1, h2, h3, h4, hb⟩
  have hs : s = 3 ∨ s = 4 ∨ s = 5 ∨ s = 6 ∨ s = 7 ∨ s = 8 := by omega
  have HB : Hid (bl = (n + 2 ^ s - 1) / 2 ^ s) := hbl
  have hbn : bl ≤ 65536 := by rcases hs with rfl | rfl | rfl | rfl | rfl | rfl <;> omega
  clear hbl h3 h4 hneg hbig
  by_cases h0 : n = 0
  · subst h0
    have hbl0 : bl = 0 := by
      rw [HB.out]
      rcases hs with rfl | rfl | rfl | rfl | rfl | rfl <;> rfl
    subst hbl0
    go_wp2
    go_ret
    exact ⟨rfl, hb⟩
  · have hz : ((n : Int) == 0) = false := by rw [beq_eq_false_iff_ne]; omega
    have hfin : (((n : Int) - 1) / 2 ^ s == (bl : Int) - 1) = true := by
      rw [beq_iff_eq, HB.out]
      rcases hs with rfl | rfl | rfl | rfl | rfl | rfl <;> omega
    go_wp2
    go_ret
    exact ⟨rfl, hb⟩

set_option maxHeartbeats 1000000 in
theorem walk7 (a0 : Int) (w0 : -9223372036854775808 ≤ a0 ∧ a0 ≤ 9223372036854775807) (w : World) :
    Calls Try.prog 7 #[.int .i64 a0] w fun e w' => e = .returned (.bool true) ∧ Below w.heap.size w w' := by
  obtain ⟨hlo, hhi⟩ := w0
  by_cases hneg : a0 < 0
  · go_enter Try.func7, Try.ntmps7
    go_wp2
    go_ret
    exact ⟨rfl, Below.refl _ _⟩
  by_cases hbig : 65536 < a0
  · have hd : decide (a0 < 0) = false := by simpa using hneg
    go_enter Try.func7, Try.ntmps7
    go_wp2
    go_ret
    exact ⟨rfl, Below.refl _ _⟩
  obtain ⟨n, rfl⟩ := Int.eq_ofNat_of_zero_le (show 0 ≤ a0 by omega)
  have hn : n ≤ 65536 := by omega
  have hd : decide ((n : Int) < 0) = false := by simp
  have hd2 : decide (65536 < (n : Int)) = false := by simp; omega
  go_enter Try.func7, Try.ntmps7
  go_wp2_with fail
  refine (zz18 n w hn).mono ?_
  rintro e w1 ⟨g0, g1, g2, bl, s, rfl, hbl, h1, h2, h3, h4, hb⟩
  have hs : s = 3 ∨ s = 4 ∨ s = 5 ∨ s = 6 ∨ s = 7 ∨ s = 8 := by omega
  have hbn : bl ≤ 65536 := by rcases hs with rfl | rfl | rfl | rfl | rfl | rfl <;> omega
  have hsz : bl ≤ 2 ^ s := by
    rw [hbl]
    rcases hs with rfl | rfl | rfl | rfl | rfl | rfl <;> simp at h3 <;> omega
  have hq : s = 3 ∨ 2 ^ s < 4 * bl := by
    rw [hbl]
    rcases hs with rfl | rfl | rfl | rfl | rfl | rfl <;> simp at h4 <;> omega
  clear hbl h4 hneg hbig h1 h2
  rcases hs with rfl | rfl | rfl | rfl | rfl | rfl
  all_goals
    simp at h3 hsz hq
    go_wp2
    go_ret
    first | exact ⟨rfl, hb⟩ | exact ⟨ret_bool (decide_eq_true (by omega)), hb⟩
end Go.Proofs.Qxb6001285a
