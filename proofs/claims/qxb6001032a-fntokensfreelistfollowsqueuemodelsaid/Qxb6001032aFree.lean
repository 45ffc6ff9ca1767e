/- free, hold: the walks. -/
import Derived.Test.Qxb6001032aUnlink2
namespace Go.Proofs.Qxb6001032a
open Go.RowKit Go.Maps
set_option linter.unusedVariables false

/-- free: the name is not known -/
theorem free_none (tb : Nat) (s : ByteArray) (mo : Option Nat) (w : World) (t0 : w.cell? ⟨tb, 0, none⟩ = some (.map mo))
    (hlk : (Instr.lookup 28 (.map mo) (.string s) true).run Try.prog w = .ok (.tuple #[.pointer none, .bool false]) w) :
    Calls Try.prog 30 #[.pointer (some ⟨tb, 0, none⟩), .string s] w fun e w' => e = .returned (.tuple #[]) ∧ w' = w := by
  go_enter Try.func30, Try.ntmps30
  go_wp2
  first | go_end0 | refine bodyPost_ret (results_none rfl _ _ _) rfl ?_
  exact ⟨rfl, rfl⟩

/-- free: it is free already -/
theorem free_free (tb b : Nat) (s : ByteArray) (mo : Option Nat) (w : World) (t0 : w.cell? ⟨tb, 0, none⟩ = some (.map mo))
    (hlk : (Instr.lookup 28 (.map mo) (.string s) true).run Try.prog w = .ok (.tuple #[.pointer (some ⟨b, 0, none⟩), .bool true]) w) (c3 : w.cell? ⟨b, 3, none⟩ = some (.bool true)) :
    Calls Try.prog 30 #[.pointer (some ⟨tb, 0, none⟩), .string s] w fun e w' => e = .returned (.tuple #[]) ∧ w' = w := by
  go_enter Try.func30, Try.ntmps30
  go_wp2
  first | go_end0 | refine bodyPost_ret (results_none rfl _ _ _) rfl ?_
  exact ⟨rfl, rfl⟩

/-- free: nothing else is free -/
theorem free_first (tb b : Nat) (s : ByteArray) (mo : Option Nat) (fr : Int) (w : World) {p1 p4 p5 : Option Addr} (hne : tb ≠ b) (t0 : w.cell? ⟨tb, 0, none⟩ = some (.map mo))
    (hlk : (Instr.lookup 28 (.map mo) (.string s) true).run Try.prog w = .ok (.tuple #[.pointer (some ⟨b, 0, none⟩), .bool true]) w) (c3 : w.cell? ⟨b, 3, none⟩ = some (.bool false))
    (c4 : w.cell? ⟨b, 4, none⟩ = some (.pointer p4)) (c5 : w.cell? ⟨b, 5, none⟩ = some (.pointer p5))
    (t1 : w.cell? ⟨tb, 1, none⟩ = some (.pointer p1)) (t2 : w.cell? ⟨tb, 2, none⟩ = some (.pointer none)) (t3 : w.cell? ⟨tb, 3, none⟩ = some (.int .i64 fr)) (hf : 0 ≤ fr) (hf' : fr ≤ 4096)
    (zb : ∀ i, w.frozen? ⟨b, i, none⟩ = false) (zt : ∀ i, w.frozen? ⟨tb, i, none⟩ = false) :
    Calls Try.prog 30 #[.pointer (some ⟨tb, 0, none⟩), .string s] w fun e w' => e = .returned (.tuple #[]) ∧
      w' = (((((w.setCell ⟨b, 3, none⟩ (.bool true)).setCell ⟨b, 4, none⟩ (.pointer none)).setCell ⟨b, 5, none⟩ (.pointer none)).setCell ⟨tb, 1, none⟩ (.pointer (some ⟨b, 0, none⟩))).setCell ⟨tb, 2, none⟩ (.pointer (some ⟨b, 0, none⟩))).setCell ⟨tb, 3, none⟩ (.int .i64 (fr + 1)) := by
  go_enter Try.func30, Try.ntmps30
  go_wp2
  go_end0
  exact ⟨rfl, rfl⟩

/-- free: others are free -/
theorem free_more (tb b o : Nat) (s : ByteArray) (mo : Option Nat) (fr : Int) (w : World) {p4 p5 o5 : Option Addr} (hne : tb ≠ b) (hto : tb ≠ o) (hbo : b ≠ o) (t0 : w.cell? ⟨tb, 0, none⟩ = some (.map mo))
    (hlk : (Instr.lookup 28 (.map mo) (.string s) true).run Try.prog w = .ok (.tuple #[.pointer (some ⟨b, 0, none⟩), .bool true]) w) (c3 : w.cell? ⟨b, 3, none⟩ = some (.bool false))
    (c4 : w.cell? ⟨b, 4, none⟩ = some (.pointer p4)) (c5 : w.cell? ⟨b, 5, none⟩ = some (.pointer p5)) (ho : w.cell? ⟨o, 5, none⟩ = some (.pointer o5))
    (t2 : w.cell? ⟨tb, 2, none⟩ = some (.pointer (some ⟨o, 0, none⟩))) (t3 : w.cell? ⟨tb, 3, none⟩ = some (.int .i64 fr)) (hf : 0 ≤ fr) (hf' : fr ≤ 4096)
    (zb : ∀ i, w.frozen? ⟨b, i, none⟩ = false) (zo : ∀ i, w.frozen? ⟨o, i, none⟩ = false) (zt : ∀ i, w.frozen? ⟨tb, i, none⟩ = false) :
    Calls Try.prog 30 #[.pointer (some ⟨tb, 0, none⟩), .string s] w fun e w' => e = .returned (.tuple #[]) ∧
      w' = (((((w.setCell ⟨b, 3, none⟩ (.bool true)).setCell ⟨b, 4, none⟩ (.pointer (some ⟨o, 0, none⟩))).setCell ⟨b, 5, none⟩ (.pointer none)).setCell ⟨o, 5, none⟩ (.pointer (some ⟨b, 0, none⟩))).setCell ⟨tb, 2, none⟩ (.pointer (some ⟨b, 0, none⟩))).setCell ⟨tb, 3, none⟩ (.int .i64 (fr + 1)) := by
  go_enter Try.func30, Try.ntmps30
  go_wp2
  go_end0
  exact ⟨rfl, rfl⟩

/-- hold: it is held -/
theorem hold_held (tb b : Nat) (s : ByteArray) (mo : Option Nat) (w : World) (t0 : w.cell? ⟨tb, 0, none⟩ = some (.map mo))
    (hlk : (Instr.lookup 28 (.map mo) (.string s) true).run Try.prog w = .ok (.tuple #[.pointer (some ⟨b, 0, none⟩), .bool true]) w) (c3 : w.cell? ⟨b, 3, none⟩ = some (.bool false)) :
    Calls Try.prog 29 #[.pointer (some ⟨tb, 0, none⟩), .string s] w fun e w' => e = .returned (.pointer (some ⟨b, 0, none⟩)) ∧ w' = w := by
  go_enter Try.func29, Try.ntmps29
  go_wp2
  go_ret
  exact ⟨rfl, rfl⟩

/-- hold: it is free -/
theorem hold_free (tb b : Nat) (s : ByteArray) (mo : Option Nat) (w : World) (R : World → Prop) (t0 : w.cell? ⟨tb, 0, none⟩ = some (.map mo))
    (hlk : (Instr.lookup 28 (.map mo) (.string s) true).run Try.prog w = .ok (.tuple #[.pointer (some ⟨b, 0, none⟩), .bool true]) w) (c3 : w.cell? ⟨b, 3, none⟩ = some (.bool true))
    (hu : Hid (Calls Try.prog 35 #[.pointer (some ⟨tb, 0, none⟩), .pointer (some ⟨b, 0, none⟩)] w fun e w' => e = .returned (.tuple #[]) ∧ R w')) :
    Calls Try.prog 29 #[.pointer (some ⟨tb, 0, none⟩), .string s] w fun e w' => e = .returned (.pointer (some ⟨b, 0, none⟩)) ∧ R w' := by
  go_enter Try.func29, Try.ntmps29
  go_wp2_with (go_at_call 35; refine hu.out.mono ?_; rintro e w' ⟨rfl, hR⟩)
  go_ret
  exact ⟨rfl, hR⟩

/-- hold: a new name, the map is there -/
theorem hold_new (tb mb k : Nat) (s : ByteArray) (D : DataW Unit) (w : World) (hs : s.size ≤ maxLen) (ht : tb < w.heap.size) (hk : k < maxLen) (hbt : mb ≠ tb) (t0 : w.cell? ⟨tb, 0, none⟩ = some (.map (some mb)))
    (t4 : w.cell? ⟨tb, 4, none⟩ = some (.int .u64 0)) (zt : ∀ i, w.frozen? ⟨tb, i, none⟩ = false)
    (hlk : (Instr.lookup 28 (.map (some mb)) (.string s) true).run Try.prog w = .ok (.tuple #[.pointer none, .bool false]) w) (hown : w.ownsMap Try.prog 9 ptrElem mb k D) :
    Calls Try.prog 29 #[.pointer (some ⟨tb, 0, none⟩), .string s] w fun e w' => e = .returned (.pointer (some ⟨w.heap.size, 0, none⟩)) ∧
      w'.ownsMap Try.prog 9 ptrElem mb (k + 1) (D.put (key s) (dat (some w.heap.size))) ∧
      (w.alloc (.cells #[.string s, .int .u64 0, .int .u64 0, .bool false, .pointer none, .pointer none] 56)).grownBy w' (some mb) := by
  have hq : ∀ (w : World) (r : Option Nat), (binOp .eql 28 (.map r) (.map none)).run Try.prog w = .ok (.bool r.isNone) w := fun w r => run_eql_map_nil w _ _ _ r Try.underlying28
  go_enter Try.func29, Try.ntmps29
  go_wp2_with (at_mapUpdate; refine wpList_mapUpdate_own _ rfl _ _ _ 28 rfl 9 29 law Try.underlying28 _ mb k _ rfl (hown.alloc _) hk _ _ _ rfl rfl (key_ok hs) _ [] (ptrElem_ptr (some w.heap.size)) ?_)
  intro w1 hown1 hg1
  go_wp2
  go_ret
  exact ⟨rfl, hown1, hg1⟩

/-- hold: the first name of all -/
theorem hold_make (tb : Nat) (s : ByteArray) (w : World) (hs : s.size ≤ maxLen) (ht : tb < w.heap.size) (t0 : w.cell? ⟨tb, 0, none⟩ = some (.map none))
    (t4 : w.cell? ⟨tb, 4, none⟩ = some (.int .u64 0)) (zt : ∀ i, w.frozen? ⟨tb, i, none⟩ = false)
    (hlk : (Instr.lookup 28 (.map none) (.string s) true).run Try.prog w = .ok (.tuple #[.pointer none, .bool false]) w) :
    Calls Try.prog 29 #[.pointer (some ⟨tb, 0, none⟩), .string s] w fun e w' => e = .returned (.pointer (some ⟨w.heap.size + 1, 0, none⟩)) ∧
      w'.ownsMap Try.prog 9 ptrElem w.heap.size 1 ((DataW.map []).put (key s) (dat (some (w.heap.size + 1)))) ∧
      (((w.setCell ⟨tb, 0, none⟩ (.map (some w.heap.size))).alloc (.map #[] 0)).alloc (.cells #[.string s, .int .u64 0, .int .u64 0, .bool false, .pointer none, .pointer none] 56)).grownBy w' (some w.heap.size) := by
  have hq : ∀ (w : World) (r : Option Nat), (binOp .eql 28 (.map r) (.map none)).run Try.prog w = .ok (.bool r.isNone) w := fun w r => run_eql_map_nil w _ _ _ r Try.underlying28
  have hmm := @run_makeMap Try.prog
  have hown : ((w.setCell ⟨tb, 0, none⟩ (.map (some w.heap.size))).alloc (.map #[] 0)).ownsMap Try.prog 9 ptrElem w.heap.size 0 (.map []) := by
    have := World.ownsMap_made (w.setCell ⟨tb, 0, none⟩ (.map (some w.heap.size))) Try.prog 9 ptrElem
    rw [size_set] at this
    exact this
  have hpe : ptrElem (.pointer (some ⟨w.heap.size + 1, 0, none⟩)) = some (dat (some (w.heap.size + 1)), []) := ptrElem_ptr (some (w.heap.size + 1))
  go_enter Try.func29, Try.ntmps29
  go_wp2_with (at_mapUpdate; refine wpList_mapUpdate_own _ rfl _ _ _ 28 rfl 9 29 law Try.underlying28 _ w.heap.size 0 _ rfl (hown.alloc _) (by decide) _ _ _ rfl rfl (key_ok hs) _ [] hpe ?_)
  intro w1 hown1 hg1
  go_wp2
  go_ret
  exact ⟨rfl, hown1, hg1⟩
end Go.Proofs.Qxb6001032a
