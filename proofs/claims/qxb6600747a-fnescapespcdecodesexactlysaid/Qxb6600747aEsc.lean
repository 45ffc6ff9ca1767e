/-
  PLAIN: the text that escapeSPC writes, as a function on lists of bytes; that it is injective; how it is read back.
-/
import Derived.Lib.Builder
import Derived.KernelRfl
namespace Go.Proofs.Qxb6600747a

/-- a byte that is written escaped. -/
def mustB (c : UInt8) : Bool := decide (c.toNat < 32) || decide (c.toNat = 127) || decide (c.toNat = 59) || decide (c.toNat = 92)

/-- the lower-case hex digit of a number under 16. -/
def hexD (n : Nat) : UInt8 := if n < 10 then UInt8.ofNat (48 + n) else UInt8.ofNat (87 + n)

def escB (c : UInt8) : List UInt8 := if mustB c then [92, 120, hexD (c.toNat / 16), hexD (c.toNat % 16)] else [c]

def esc (l : List UInt8) : List UInt8 := l.flatMap escB

theorem esc_nil : esc [] = [] := rfl
theorem esc_cons (c : UInt8) (l : List UInt8) : esc (c :: l) = escB c ++ esc l := by simp [esc]
theorem esc_append (a b : List UInt8) : esc (a ++ b) = esc a ++ esc b := by simp [esc]

theorem escB_le (c : UInt8) : (escB c).length ≤ 4 := by
  unfold escB; split <;> simp
theorem escB_pos (c : UInt8) : 1 ≤ (escB c).length := by
  unfold escB; split <;> simp
theorem esc_le (l : List UInt8) : (esc l).length ≤ 4 * l.length := by
  induction l with
  | nil => simp [esc]
  | cons c l ih => rw [esc_cons, List.length_append, List.length_cons]; have := escB_le c; omega

theorem esc_take (l : List UInt8) (k : Nat) (h : k < l.length) : esc (l.take (k + 1)) = esc (l.take k) ++ escB l[k] := by
  rw [List.take_succ_eq_append_getElem h, esc_append]; simp [esc]

theorem mustB_bs : mustB 92 = true := by decide

theorem hexD_toNat (n : Nat) (h : n < 16) : (hexD n).toNat = if n < 10 then 48 + n else 87 + n := by
  unfold hexD
  split
  · rw [UInt8.toNat_ofNat']; omega
  · rw [UInt8.toNat_ofNat']; omega

theorem hexD_inj (a b : Nat) (ha : a < 16) (hb : b < 16) (h : hexD a = hexD b) : a = b := by
  have h1 := congrArg UInt8.toNat h
  rw [hexD_toNat a ha, hexD_toNat b hb] at h1
  split at h1 <;> split at h1 <;> omega

theorem esc_inj : ∀ (a b : List UInt8), esc a = esc b → a = b
  | [], [], _ => rfl
  | [], c :: b, h => by
    have := congrArg List.length h
    rw [esc_cons, List.length_append] at this
    have hp := escB_pos c
    rw [esc_nil, List.length_nil] at this
    omega
  | c :: a, [], h => by
    have := congrArg List.length h
    rw [esc_cons, List.length_append] at this
    have hp := escB_pos c
    rw [esc_nil, List.length_nil] at this
    omega
  | c :: a, d :: b, h => by
    rw [esc_cons, esc_cons] at h
    unfold escB at h
    by_cases hc : mustB c = true
    · by_cases hd : mustB d = true
      · rw [if_pos hc, if_pos hd] at h
        simp only [List.cons_append, List.nil_append, List.cons.injEq, true_and] at h
        obtain ⟨h1, h2, h3⟩ := h
        have c1 := UInt8.toNat_lt c
        have d1 := UInt8.toNat_lt d
        have e1 := hexD_inj _ _ (by omega) (by omega) h1
        have e2 := hexD_inj _ _ (by omega) (by omega) h2
        have e3 : c = d := UInt8.toNat_inj.1 (by omega)
        rw [e3, esc_inj a b h3]
      · rw [if_pos hc, if_neg hd] at h
        simp only [List.cons_append, List.nil_append, List.cons.injEq] at h
        rw [← h.1] at hd
        exact absurd mustB_bs hd
    · by_cases hd : mustB d = true
      · rw [if_neg hc, if_pos hd] at h
        simp only [List.cons_append, List.nil_append, List.cons.injEq] at h
        rw [h.1] at hc
        exact absurd mustB_bs hc
      · rw [if_neg hc, if_neg hd] at h
        simp only [List.cons_append, List.nil_append, List.cons.injEq] at h
        rw [h.1, esc_inj a b h.2]

end Go.Proofs.Qxb6600747a
