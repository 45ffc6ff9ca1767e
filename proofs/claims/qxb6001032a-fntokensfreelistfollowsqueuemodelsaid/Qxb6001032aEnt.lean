/- THE ENTRIES' CELLS, as the queue turns: no walk. -/
import Derived.Test.Qxb6001032aBase
namespace Go.Proofs.Qxb6001032a
open Go.RowKit Go.Maps

variable {f : ByteArray → Option Nat} {l1 l2 Q : List ByteArray} {s t : ByteArray}

theorem isIn_congr {l m : List ByteArray} (h : t ∈ l ↔ t ∈ m) : isIn l t = isIn m t := by
  rw [Bool.eq_iff_iff, isIn_true, isIn_true]; exact h

theorem entC_self (h1 : s ∉ l1) (h2 : s ∉ l2) : entC f (l1 ++ s :: l2) s = #[.string s, .int .u64 0, .int .u64 0, .bool true, ptr (l1.getLast?.bind f), ptr (l2.head?.bind f)] := by
  simp only [entC]
  rw [isIn_true.2 (by simp), older_split h2, newer_split h1]

theorem entC_out (h : s ∉ Q) : entC f Q s = #[.string s, .int .u64 0, .int .u64 0, .bool false, .pointer none, .pointer none] := by
  simp only [entC]
  rw [isIn_false.2 h, older_not_mem h, newer_not_mem h]
  rfl

theorem entC_other (hts : t ≠ s) (h1 : l1.getLast? ≠ some t) (h2 : l2.head? ≠ some t) : entC f (l1 ++ l2) t = entC f (l1 ++ s :: l2) t := by
  have e1 : isIn (l1 ++ l2) t = isIn (l1 ++ s :: l2) t := isIn_congr (by simp [hts])
  have e2 : newer (l1 ++ l2) t = newer (l1 ++ s :: l2) t := by
    by_cases ht : t ∈ l1
    · exact newer_append_left ht h1
    · rw [newer_append_right ht, newer_append_right ht, newer, if_neg (fun e => hts e.symm)]
  have e3 : older (l1 ++ l2) t = older (l1 ++ s :: l2) t := by
    by_cases ht : t ∈ l2
    · have := older_append_right (l1 := l1) (l3 := l1 ++ [s]) ht h2
      rw [this]; simp
    · rw [older_append_left ht, older_append_left (by simp [ht, hts])]
  simp only [entC, e1, e2, e3]

theorem entC_prev {p : ByteArray} (h1 : p ∉ l1) (h2 : p ∉ l2) (hps : p ≠ s) : entC f (l1 ++ [p] ++ l2) p = (entC f (l1 ++ [p] ++ s :: l2) p).setIfInBounds 5 (ptr (l2.head?.bind f)) := by
  have e1 : isIn (l1 ++ [p] ++ l2) p = isIn (l1 ++ [p] ++ s :: l2) p := isIn_congr (by simp)
  have e2 := newer_snoc_last (l1 := l1) (l2 := l2) h1
  have e3 : older (l1 ++ [p] ++ l2) p = older (l1 ++ [p] ++ s :: l2) p :=
    (older_append_left (l1 := l1 ++ [p]) h2).trans (older_append_left (l1 := l1 ++ [p]) (l2 := s :: l2) (by simp [h2, hps])).symm
  simp only [entC, e1, e2, e3]
  rfl

theorem entC_next {n : ByteArray} (h1 : n ∉ l1) (h2 : n ∉ l2) (hns : n ≠ s) : entC f (l1 ++ n :: l2) n = (entC f (l1 ++ s :: n :: l2) n).setIfInBounds 4 (ptr (l1.getLast?.bind f)) := by
  have e1 : isIn (l1 ++ n :: l2) n = isIn (l1 ++ s :: n :: l2) n := isIn_congr (by simp)
  have e2 : newer (l1 ++ n :: l2) n = newer (l1 ++ s :: n :: l2) n := by
    rw [newer_append_right h1, newer_append_right h1]
    conv => rhs; rw [newer, if_neg (fun e => hns e.symm)]
  have e3 := older_split (l1 := l1) (s := n) (l2 := l2) h2
  simp only [entC, e1, e2, e3]
  rfl

/-- A queue that gets s at its end: those that are not its last stay as they were. -/
theorem entC_snoc_other (hts : t ≠ s) (h1 : Q.getLast? ≠ some t) : entC f (Q ++ [s]) t = entC f Q t := by
  have := entC_other (f := f) (l1 := Q) (l2 := []) hts h1 (by simp)
  rw [List.append_nil] at this
  exact this.symm

theorem entC_snoc_last {p : ByteArray} (h1 : p ∉ l1) (hps : p ≠ s) : entC f (l1 ++ [p] ++ [s]) p = (entC f (l1 ++ [p]) p).setIfInBounds 5 (ptr (f s)) := by
  have e1 : isIn (l1 ++ [p] ++ [s]) p = isIn (l1 ++ [p]) p := isIn_congr (by simp)
  have e2 : newer (l1 ++ [p] ++ [s]) p = some s := newer_snoc_last h1
  have e3 : older (l1 ++ [p] ++ [s]) p = older (l1 ++ [p]) p := older_append_left (by simpa using hps)
  simp only [entC, e1, e2, e3]
  rfl

theorem entC_snoc_self (h : s ∉ Q) : entC f (Q ++ [s]) s = #[.string s, .int .u64 0, .int .u64 0, .bool true, ptr (Q.getLast?.bind f), .pointer none] := by
  rw [entC_self h (by simp)]
  rfl

/-- The entries do not look at what f says of names that are not on the queue. -/
theorem entC_congr {g : ByteArray → Option Nat} (h : ∀ u ∈ Q, f u = g u) : entC f Q t = entC g Q t := by
  have e1 : (older Q t).bind f = (older Q t).bind g := by
    cases ho : older Q t with
    | none => rfl
    | some u => exact h u (older_mem ho)
  have e2 : (newer Q t).bind f = (newer Q t).bind g := by
    cases ho : newer Q t with
    | none => rfl
    | some u => exact h u (newer_mem ho)
  simp only [entC, e1, e2]

theorem tokC_congr {g : ByteArray → Option Nat} {mo : Option Nat} (h : ∀ u ∈ Q, f u = g u) : tokC f Q mo = tokC g Q mo := by
  have e1 : Q.head?.bind f = Q.head?.bind g := by
    cases ho : Q.head? with
    | none => rfl
    | some u => exact h u (List.mem_of_mem_head? ho)
  have e2 : Q.getLast?.bind f = Q.getLast?.bind g := by
    cases ho : Q.getLast? with
    | none => rfl
    | some u => exact h u (List.mem_of_mem_getLast? ho)
  simp only [tokC, e1, e2]

end Go.Proofs.Qxb6001032a
