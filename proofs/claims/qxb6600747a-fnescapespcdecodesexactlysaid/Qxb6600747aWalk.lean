/-
  THE WALK OF escapeSPC (function 12; mustEscape 14; ZZescapeSPC 7): it gives 'esc'.
-/
import Derived.Test.Qxb6600747aShelf
import Derived.Test.Qxb6600747aEsc
import Derived.WalkKit
import Derived.BigCall
namespace Go.Proofs.Qxb6600747a
open Go.RowKit

theorem must14 (c : UInt8) (w : World) :
    Calls Try.prog 14 #[.int .u8 c.toNat] w fun e w' => e = .returned (.bool (mustB c)) ∧ w = w' := by
  have hc := UInt8.toNat_lt c
  by_cases h1 : c.toNat < 32 <;> by_cases h2 : c.toNat = 127 <;> by_cases h3 : c.toNat = 59 <;> by_cases h4 : c.toNat = 92 <;> try omega
  all_goals
    have hm : mustB c = decide (c.toNat < 32 ∨ c.toNat = 127 ∨ c.toNat = 59 ∨ c.toNat = 92) := by simp [mustB, h1, h2, h3, h4]
    rw [hm]
    go_enter Try.func14, Try.ntmps14
    go_wp2
    go_ret
    first | (simp [h1, h2, h3, h4]; done) | (simp [h1, h2, h3, h4]; omega)

theorem hexLit0 : ∀ n : Fin 16, (#[48, 49, 50, 51, 52, 53, 54, 55, 56, 57, 97, 98, 99, 100, 101, 102] : Array UInt8)[n.val] = hexD n.val := by decide
theorem hexLit (n : Nat) (h : n < (⟨#[48, 49, 50, 51, 52, 53, 54, 55, 56, 57, 97, 98, 99, 100, 101, 102]⟩ : ByteArray).size) : (⟨#[48, 49, 50, 51, 52, 53, 54, 55, 56, 57, 97, 98, 99, 100, 101, 102]⟩ : ByteArray)[n] = hexD n :=
  hexLit0 ⟨n, h⟩

set_option maxHeartbeats 4000000 in
set_option maxRecDepth 1000000 in
theorem esc12 (s : ByteArray) (w : World) (hs : s.size ≤ 1048576) :
    Calls Try.prog 12 #[.string s] w fun e w' => e = .returned (.string ⟨(esc s.data.toList).toArray⟩) ∧ Below w.heap.size w w' := by
  go_enter Try.func12, Try.ntmps12
  have hI0 : (w.alloc (.cells #[.pointer none, .slice none 0 0] 30)).heap[w.heap.size]? = some (.cells #[.pointer none, .slice none 0 0] 30 (0, 0)) := by
    show (w.heap.push _)[w.heap.size]? = _
    exact Array.getElem?_push_size
  go_wp2_with fail
  refine (Try.Builder_Grow_fresh w.heap.size w.heap.size s.size _ (Nat.le_refl _) hI0 (by simp) (by omega)).mono ?_
  rintro e W0 ⟨rfl, hI, hb0⟩
  have hb : Below w.heap.size w W0 := ((Below.refl _ w).alloc (Nat.le_refl _) _).trans hb0
  clear hI0 hb0
  go_wp2_with fail
  go_loopw [4] (fun i wr => ∃ k : Nat, k ≤ s.size ∧ i = .int .i64 k ∧ Lib.IsBuilder 30 5 w.heap.size w.heap.size (Lib.byteCells (esc (s.data.toList.take k))) wr ∧ Below w.heap.size w wr ∧ w.heap.size ≤ wr.heap.size) (fun i _ => s.size - (intOf i).toNat)
  case atStart => exact ⟨0, Nat.zero_le _, rfl, Or.inr (by simpa [esc, Lib.byteCells] using hI), hb, hb.size⟩
  case round =>
    obtain ⟨k, hk, rfl, hB, hbw, hsz⟩ := hrel
    clear hI hb
    by_cases hlt : k < s.size
    · obtain ⟨c, hc⟩ : ∃ c, c = s[k] := ⟨_, rfl⟩
      have hcl : c = s.data.toList[k] := by rw [hc]; simp; rfl
      have hst := esc_take s.data.toList k (by simpa using hlt)
      rw [← hcl] at hst
      have hln := esc_le (s.data.toList.take k)
      rw [List.length_take] at hln
      by_cases hm : mustB c = true
      · go_wp2_with fail
        rw [← hc]
        refine (must14 c wr).mono ?_
        rintro e _ ⟨rfl, rfl⟩
        rw [hm]
        go_wp2_with fail
        refine (Try.Builder_WriteString w.heap.size w.heap.size _ ⟨#[92, 120]⟩ _ hB (by rw [Lib.byteCells_length]; show _ + 2 ≤ _; omega) hsz).mono ?_
        rintro e W1 ⟨rfl, h1, b1⟩
        have hq : (0 : Int) ≤ (s[k].toNat : Int) / 16 ∧ (s[k].toNat : Int) / 16 < 16 := by have := UInt8.toNat_lt s[k]; omega
        go_wp2_with fail
        rw [hexLit]
        refine (Try.Builder_WriteByte w.heap.size w.heap.size _ _ _ (Or.inr h1) (by rw [List.length_append, Lib.byteCells_length, Lib.strCells_length]; show _ + 2 + 1 ≤ _; omega) (Nat.le_trans hsz b1.size)).mono ?_
        rintro e W2 ⟨rfl, h2, b2⟩
        clear hB h1
        go_wp2_with fail
        rw [hexLit]
        refine (Try.Builder_WriteByte w.heap.size w.heap.size _ _ _ (Or.inr h2) (by rw [List.length_append, List.length_append, Lib.byteCells_length, Lib.strCells_length]; show _ + 2 + 1 + 1 ≤ _; omega) (Nat.le_trans hsz (b1.trans b2).size)).mono ?_
        rintro e W3 ⟨rfl, h3, b3⟩
        have hN : Lib.byteCells (esc (s.data.toList.take (k + 1))) = Lib.byteCells (esc (s.data.toList.take k)) ++ Lib.strCells ⟨#[92, 120]⟩ ++ [.int .u8 (hexD (s[k].toNat / 16)).toNat] ++ [.int .u8 (hexD (s[k].toNat % 16)).toNat] := by
          rw [hst, ← hc]
          simp only [escB, hm, if_true, Lib.byteCells, Lib.strCells, List.map_append, List.map_cons, List.map_nil, List.append_assoc, List.cons_append, List.nil_append]
        rw [← hN] at h3
        clear h2 hN hst
        go_wp2_with fail
        go_roundw
        case rel => exact ⟨k + 1, by omega, by go_num, Or.inr h3, hbw.trans ((b1.trans b2).trans b3), Nat.le_trans hsz ((b1.trans b2).trans b3).size⟩
        case measure => simp [intOf]; omega
      · have hm0 : mustB c = false := by simpa using hm
        go_wp2_with fail
        rw [← hc]
        refine (must14 c wr).mono ?_
        rintro e _ ⟨rfl, rfl⟩
        rw [hm0]
        go_wp2_with fail
        refine (Try.Builder_WriteByte w.heap.size w.heap.size _ _ _ hB (by rw [Lib.byteCells_length]; omega) hsz).mono ?_
        rintro e W1 ⟨rfl, h1, b1⟩
        have hN : Lib.byteCells (esc (s.data.toList.take (k + 1))) = Lib.byteCells (esc (s.data.toList.take k)) ++ [.int .u8 s[k].toNat] := by
          rw [hst, ← hc]
          simp only [escB, hm0, Lib.byteCells, List.map_append, List.map_cons, List.map_nil, Bool.false_eq_true, if_false]
        rw [← hN] at h1
        clear hN hst hB
        go_wp2_with fail
        go_roundw
        case rel => exact ⟨k + 1, by omega, by go_num, Or.inr h1, hbw.trans b1, Nat.le_trans hsz b1.size⟩
        case measure => simp [intOf]; omega
    · obtain rfl : k = s.size := by omega
      go_wp2_with fail
      refine (Try.Builder_String_any w.heap.size w.heap.size _ _ hB hsz).mono ?_
      rintro e W1 ⟨rfl, b1⟩
      have hN : s.data.toList.take s.size = s.data.toList := List.take_of_length_le (by simp)
      rw [hN]
      go_wp2_with fail
      go_ret
      exact ⟨rfl, hbw.trans b1⟩

theorem esc7 (s : ByteArray) (w : World) (hs : s.size ≤ 1048576) :
    Calls Try.prog 7 #[.string s] w fun e w' => e = .returned (.string ⟨(esc s.data.toList).toArray⟩) ∧ Below w.heap.size w w' := by
  go_enter Try.func7, Try.ntmps7
  go_wp2_with fail
  refine (esc12 s w hs).mono ?_
  rintro e W1 ⟨rfl, b1⟩
  go_wp2_with fail
  go_ret
  exact ⟨rfl, b1⟩

end Go.Proofs.Qxb6600747a
