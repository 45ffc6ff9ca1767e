/- the small functions that only read. -/
import Derived.Test.Qxb6001032aHold
namespace Go.Proofs.Qxb6001032a
open Go.RowKit Go.Maps
set_option linter.unusedVariables false

def IsBool (e : Ending) : Prop := ∃ x, e = .returned (.bool x)

/-- The strings ss lie from address a on. -/
def StrAt (w : World) (a : Option Addr) (ss : List ByteArray) : Prop :=
  ss = [] ∨ ∃ b off, a = some ⟨b, off, none⟩ ∧ ∀ j, j < ss.length → w.cell? ⟨b, off + j, none⟩ = some (.string (ss.getD j ByteArray.empty))

def WordAt (w : World) (a : Option Addr) (zs : List Int) : Prop :=
  zs = [] ∨ ∃ b off, a = some ⟨b, off, none⟩ ∧ ∀ j, j < zs.length → w.cell? ⟨b, off + j, none⟩ = some (.int .u32 (zs.getD j 0))

set_option maxHeartbeats 400000 in
theorem bytes23 (a : Option Addr) (cap : Nat) (a' : Option Addr) (n' cap' : Nat) (p : Int) (ss : List ByteArray) (w : World) (hn : ss.length ≤ maxLen) (hn' : n' ≤ maxLen) (hr : StrAt w a ss) :
    Calls Try.prog 23 #[.slice a ss.length cap, .slice a' n' cap', .int .u32 p] w fun e w' => IsBool e ∧ w' = w := by
  generalize hnn : ss.length = n at *
  unfold maxLen at hn hn'
  by_cases h0 : n = 0
  · subst h0
    clear hr hnn
    go_enter Try.func23, Try.ntmps23
    go_wp2
    refine wp_loop_rounds 1 ?_
    rw [rounds_succ]
    go_wp2
    all_goals go_ret
    all_goals exact ⟨⟨_, rfl⟩, rfl⟩
  · rcases hr with rfl | ⟨b, off, rfl, hc⟩
    · exact absurd hnn.symm h0
    rw [hnn] at hc
    clear hnn h0
    go_enter Try.func23, Try.ntmps23
    go_wp2
    · go_ret
      exact ⟨⟨_, rfl⟩, rfl⟩
    go_loop [7, 8] (fun z i => ∃ k : Nat, k ≤ n ∧ i = .int .i64 k ∧ ∃ t, z = .int .i64 t) (fun _ i => n - (intOf i).toNat)
    case atStart => exact ⟨0, Nat.zero_le _, rfl, _, rfl⟩
    case round =>
      obtain ⟨k, hk, rfl, t, rfl⟩ := hrel
      have hcell := hc k
      clear hc
      generalize ss.getD k ByteArray.empty = x at hcell
      by_cases hlt : k < n
      · have hcell := hcell hlt
        go_wp2
        · go_ret
          exact ⟨⟨_, rfl⟩, rfl⟩
        · go_ret
          exact ⟨⟨_, rfl⟩, rfl⟩
        · go_round
          case rel => exact ⟨k + 1, by omega, by go_num, _, rfl⟩
          case measure => simp [intOf]; omega
      · clear hcell
        go_wp2
        all_goals go_ret
        all_goals exact ⟨⟨_, rfl⟩, rfl⟩

set_option maxHeartbeats 400000 in
theorem bytes25 (a : Option Addr) (cap : Nat) (a' : Option Addr) (n' cap' : Nat) (p : Int) (ss : List ByteArray) (w : World) (hn : ss.length ≤ maxLen) (hn' : n' ≤ maxLen) (hr : StrAt w a ss) :
    Calls Try.prog 25 #[.slice a ss.length cap, .slice a' n' cap', .int .u32 p] w fun e w' => IsBool e ∧ w' = w := by
  generalize hnn : ss.length = n at *
  unfold maxLen at hn hn'
  by_cases h0 : n = 0
  · subst h0
    clear hr hnn
    go_enter Try.func25, Try.ntmps25
    go_wp2
    refine wp_loop_rounds 1 ?_
    rw [rounds_succ]
    go_wp2
    all_goals go_ret
    all_goals exact ⟨⟨_, rfl⟩, rfl⟩
  · rcases hr with rfl | ⟨b, off, rfl, hc⟩
    · exact absurd hnn.symm h0
    rw [hnn] at hc
    clear hnn h0
    go_enter Try.func25, Try.ntmps25
    go_wp2
    · go_ret
      exact ⟨⟨_, rfl⟩, rfl⟩
    go_loop [7, 8] (fun z i => ∃ k : Nat, k ≤ n ∧ i = .int .i64 k ∧ ∃ t, z = .int .i64 t) (fun _ i => n - (intOf i).toNat)
    case atStart => exact ⟨0, Nat.zero_le _, rfl, _, rfl⟩
    case round =>
      obtain ⟨k, hk, rfl, t, rfl⟩ := hrel
      have hcell := hc k
      clear hc
      generalize ss.getD k ByteArray.empty = x at hcell
      by_cases hlt : k < n
      · have hcell := hcell hlt
        go_wp2
        · go_ret
          exact ⟨⟨_, rfl⟩, rfl⟩
        · go_ret
          exact ⟨⟨_, rfl⟩, rfl⟩
        · go_round
          case rel => exact ⟨k + 1, by omega, by go_num, _, rfl⟩
          case measure => simp [intOf]; omega
      · clear hcell
        go_wp2
        all_goals go_ret
        all_goals exact ⟨⟨_, rfl⟩, rfl⟩

set_option maxHeartbeats 400000 in
theorem bytes8 (a : Option Addr) (cap : Nat) (a' : Option Addr) (n' cap' : Nat) (ss : List ByteArray) (w : World) (hn : ss.length ≤ maxLen) (hn' : n' ≤ maxLen) (hr : StrAt w a ss) :
    Calls Try.prog 8 #[.slice a ss.length cap, .slice a' n' cap'] w fun e w' => IsBool e ∧ w' = w := by
  generalize hnn : ss.length = n at *
  unfold maxLen at hn hn'
  by_cases h0 : n = 0
  · subst h0
    clear hr hnn
    go_enter Try.func8, Try.ntmps8
    go_wp2
    refine wp_loop_rounds 1 ?_
    rw [rounds_succ]
    go_wp2
    all_goals go_ret
    all_goals exact ⟨⟨_, rfl⟩, rfl⟩
  · rcases hr with rfl | ⟨b, off, rfl, hc⟩
    · exact absurd hnn.symm h0
    rw [hnn] at hc
    clear hnn h0
    go_enter Try.func8, Try.ntmps8
    go_wp2
    · go_ret
      exact ⟨⟨_, rfl⟩, rfl⟩
    go_loop [5, 6] (fun z i => ∃ k : Nat, k ≤ n ∧ i = .int .i64 k ∧ ∃ t, z = .int .i64 t) (fun _ i => n - (intOf i).toNat)
    case atStart => exact ⟨0, Nat.zero_le _, rfl, _, rfl⟩
    case round =>
      obtain ⟨k, hk, rfl, t, rfl⟩ := hrel
      have hcell := hc k
      clear hc
      generalize ss.getD k ByteArray.empty = x at hcell
      by_cases hlt : k < n
      · have hcell := hcell hlt
        go_wp2
        · go_ret
          exact ⟨⟨_, rfl⟩, rfl⟩
        · go_ret
          exact ⟨⟨_, rfl⟩, rfl⟩
        · go_round
          case rel => exact ⟨k + 1, by omega, by go_num, _, rfl⟩
          case measure => simp [intOf]; omega
      · clear hcell
        go_wp2
        all_goals go_ret
        all_goals exact ⟨⟨_, rfl⟩, rfl⟩


theorem str_eq {x y : ByteArray} (h : (x.toList == y.toList) = true) : x = y := by
  rw [ByteArray.toList_eq, ByteArray.toList_eq] at h
  exact ByteArray.ext (Array.ext' (by simpa using h))
theorem str_ne {x y : ByteArray} (h : (x.toList == y.toList) = false) : x ≠ y := by
  rintro rfl
  simp at h
theorem str_self (x : ByteArray) : (x.toList == x.toList) = true := by simp

theorem getD_at {ss : List ByteArray} {k : Nat} (hk : k < ss.length) : ss.getD k ByteArray.empty = ss[k] := by
  rw [List.getD, List.getElem?_eq_getElem hk]
  rfl

theorem isIn_take_succ {ss : List ByteArray} {s x : ByteArray} {k : Nat} (h : isIn (ss.take k) s = false) (hk : k < ss.length) (hx : x = ss.getD k ByteArray.empty) (hne : x ≠ s) : isIn (ss.take (k + 1)) s = false := by
  rw [List.take_succ_eq_append_getElem hk]
  rw [isIn_false] at h ⊢
  intro hm
  rcases List.mem_append.1 hm with hm | hm
  · exact h hm
  · simp at hm
    rw [getD_at hk] at hx
    exact hne (hx.trans hm.symm)

theorem isIn_at {ss : List ByteArray} {s x : ByteArray} {k : Nat} (hk : k < ss.length) (hx : x = ss.getD k ByteArray.empty) (he : x = s) : isIn ss s = true := by
  rw [isIn_true, ← he, hx, getD_at hk]
  exact List.getElem_mem hk

set_option maxHeartbeats 400000 in
theorem over9 (a : Option Addr) (cap : Nat) (a' : Option Addr) (n' cap' : Nat) (p : Int) (ss : List ByteArray) (w : World) (hn : ss.length ≤ maxLen) (hn' : n' ≤ maxLen) (hr : StrAt w a ss) :
    Calls Try.prog 9 #[.slice a ss.length cap, .slice a' n' cap', .int .i64 p] w fun e w' => IsBool e ∧ w' = w := by
  generalize hnn : ss.length = n at *
  unfold maxLen at hn hn'
  by_cases h0 : n = 0
  · subst h0
    clear hr hnn
    go_enter Try.func9, Try.ntmps9
    go_wp2
    · go_ret
      exact ⟨⟨_, rfl⟩, rfl⟩
    refine wp_loop_rounds 1 ?_
    rw [rounds_succ]
    go_wp2
    all_goals go_ret
    all_goals exact ⟨⟨_, rfl⟩, rfl⟩
  · rcases hr with rfl | ⟨b, off, rfl, hc⟩
    · exact absurd hnn.symm h0
    rw [hnn] at hc
    clear hnn h0
    go_enter Try.func9, Try.ntmps9
    go_wp2
    · go_ret
      exact ⟨⟨_, rfl⟩, rfl⟩
    go_loop [7, 8] (fun z i => ∃ k : Nat, k ≤ n ∧ i = .int .i64 k ∧ ∃ t, z = .int .i64 t) (fun _ i => n - (intOf i).toNat)
    case atStart => exact ⟨0, Nat.zero_le _, rfl, _, rfl⟩
    case round =>
      obtain ⟨k, hk, rfl, t, rfl⟩ := hrel
      have hcell := hc k
      clear hc
      generalize ss.getD k ByteArray.empty = x at hcell
      by_cases hlt : k < n
      · have hcell := hcell hlt
        go_wp2
        · go_ret
          exact ⟨⟨_, rfl⟩, rfl⟩
        · go_round
          case rel => exact ⟨k + 1, by omega, by go_num, _, rfl⟩
          case measure => simp [intOf]; omega
      · clear hcell
        go_wp2
        all_goals go_ret
        all_goals exact ⟨⟨_, rfl⟩, rfl⟩

set_option maxHeartbeats 400000 in
theorem contains15 (a : Option Addr) (cap : Nat) (ss : List ByteArray) (s : ByteArray) (w : World) (hn : ss.length ≤ maxLen) (hr : StrAt w a ss) :
    Calls Try.prog 15 #[.slice a ss.length cap, .string s] w fun e w' => e = .returned (.bool (isIn ss s)) ∧ w' = w := by
  rcases hr with rfl | ⟨b, off, rfl, hc⟩
  · go_enter Try.func15, Try.ntmps15
    go_wp2
    refine wp_loop_rounds 1 ?_
    rw [rounds_succ]
    go_wp2
    go_ret
    exact ⟨rfl, rfl⟩
  · obtain ⟨n, hnn⟩ : ∃ n, n = ss.length := ⟨_, rfl⟩
    rw [← hnn] at hn hc ⊢
    unfold maxLen at hn
    have Hn : Hid (n = ss.length) := hnn
    clear hnn
    go_enter Try.func15, Try.ntmps15
    go_wp2
    go_loop [5] (fun i => ∃ k : Nat, k ≤ n ∧ i = .int .i64 k ∧ isIn (ss.take k) s = false) (fun i => n - (intOf i).toNat)
    case atStart => exact ⟨0, Nat.zero_le _, rfl, rfl⟩
    case round =>
      obtain ⟨k, hk, rfl, hno⟩ := hrel
      have hcell := hc k
      clear hc
      have Hno : Hid (isIn (ss.take k) s = false) := hno
      clear hno
      obtain ⟨x, hx⟩ : ∃ x, x = ss.getD k ByteArray.empty := ⟨_, rfl⟩
      rw [← hx] at hcell
      have Hx : Hid (x = ss.getD k ByteArray.empty) := hx
      clear hx
      by_cases hlt : k < n
      · have hcell := hcell hlt
        go_wp2
        · have he : (x.toList == s.toList) = true := by assumption
          go_ret
          rw [isIn_at (Hn.out ▸ hlt) Hx.out (str_eq he)]
          exact ⟨rfl, rfl⟩
        · have he : (x.toList == s.toList) = false := by assumption
          go_round
          case rel => exact ⟨k + 1, by omega, by go_num, isIn_take_succ Hno.out (Hn.out ▸ hlt) Hx.out (str_ne he)⟩
          case measure => simp [intOf]; omega
      · clear hcell
        go_wp2
        go_ret
        have h1 := Hno.out
        have h2 := Hn.out
        rw [List.take_of_length_le (by omega)] at h1
        rw [h1]
        exact ⟨rfl, rfl⟩

/-- zzSame at two rows of the same strings -/
theorem same17 (a : Option Addr) (cap : Nat) (a' : Option Addr) (cap' : Nat) (ss : List ByteArray) (w : World) (hn : ss.length ≤ maxLen) (hr : StrAt w a ss) (hr' : StrAt w a' ss) :
    Calls Try.prog 17 #[.slice a ss.length cap, .slice a' ss.length cap'] w fun e w' => e = .returned (.bool true) ∧ ∃ m, w' = w.drewN m := by
  rcases hr with rfl | ⟨b, off, rfl, hc⟩
  · go_enter Try.func17, Try.ntmps17
    go_wp2
    refine wp_loop_rounds 1 ?_
    rw [rounds_succ]
    go_wp2
    go_ret
    exact ⟨rfl, 0, rfl⟩
  · rcases hr' with rfl | ⟨b', off', rfl, hc'⟩
    · go_enter Try.func17, Try.ntmps17
      go_wp2
      refine wp_loop_rounds 1 ?_
      rw [rounds_succ]
      go_wp2
      go_ret
      exact ⟨rfl, 0, rfl⟩
    obtain ⟨n, hnn⟩ : ∃ n, n = ss.length := ⟨_, rfl⟩
    rw [← hnn] at hn hc hc' ⊢
    unfold maxLen at hn
    clear hnn
    go_enter Try.func17, Try.ntmps17
    go_wp2
    go_loopw [5] (fun i wr => ∃ k : Nat, k ≤ n ∧ i = .int .i64 k ∧ ∃ m, wr = w.drewN m) (fun i _ => n - (intOf i).toNat)
    case atStart => exact ⟨0, Nat.zero_le _, rfl, 0, rfl⟩
    case round =>
      obtain ⟨k, hk, rfl, m, rfl⟩ := hrel
      have hcell := hc k
      have hcell' := hc' k
      clear hc hc'
      generalize ss.getD k ByteArray.empty = x at hcell hcell'
      have hse := str_self x
      by_cases hlt : k < n
      · have hcell := hcell hlt
        have hcell' := hcell' hlt
        go_wp2
        go_region
        go_wp2
        go_roundw
        case rel => exact ⟨k + 1, by omega, by go_num, m + 1, rfl⟩
        case measure => simp [intOf]; omega
      · clear hcell hcell'
        go_wp2
        go_ret
        exact ⟨rfl, m, rfl⟩
end Go.Proofs.Qxb6001032a
