/- PLAIN FACTS for countRun: low bits, merging two falling runs. No Go in sight. -/
namespace Go.Proofs.Qxb6001285a

/-- The lowest bit of a number. -/
theorem lowbit (r : Nat) (h0 : 0 < r) (h1 : r < 2 ^ 32) : 1 ≤ r &&& (2 ^ 32 - r) ∧ r &&& (2 ^ 32 - r) ≤ r := by
  refine ⟨?_, Nat.and_le_left⟩
  rcases Nat.eq_zero_or_pos (r &&& (2 ^ 32 - r)) with h | h
  · exfalso
    have hx : (BitVec.ofNat 32 r) &&& (BitVec.ofNat 32 (2 ^ 32 - r)) = BitVec.ofNat 32 0 := by
      apply BitVec.eq_of_toNat_eq
      rw [BitVec.toNat_and, BitVec.toNat_ofNat, BitVec.toNat_ofNat, Nat.mod_eq_of_lt h1, Nat.mod_eq_of_lt (by omega), h]
      rfl
    have hs := BitVec.add_eq_or_of_and_eq_zero _ _ hx
    have h2 : (BitVec.ofNat 32 r + BitVec.ofNat 32 (2 ^ 32 - r)).toNat = 0 := by
      rw [BitVec.toNat_add, BitVec.toNat_ofNat, BitVec.toNat_ofNat, Nat.mod_eq_of_lt h1, Nat.mod_eq_of_lt (by omega : 2 ^ 32 - r < 2 ^ 32), show r + (2 ^ 32 - r) = 2 ^ 32 by omega]
    rw [hs, BitVec.toNat_or, BitVec.toNat_ofNat, Nat.mod_eq_of_lt h1] at h2
    have := (Nat.left_le_or : r ≤ r ||| (BitVec.ofNat 32 (2 ^ 32 - r)).toNat)
    omega
  · exact h

theorem mem_here {l : List Nat} {i : Nat} (hi : i < l.length) : l[i] ∈ l.drop i := by
  rw [List.drop_eq_getElem_cons hi]
  exact List.mem_cons_self
theorem mem_later {l : List Nat} {i y : Nat} (h : y ∈ l.drop (i + 1)) : y ∈ l.drop i := by
  by_cases hi : i < l.length
  · rw [List.drop_eq_getElem_cons hi]
    exact List.mem_cons_of_mem _ h
  · rw [List.drop_eq_nil_of_le (by omega)] at h
    cases h

section
variable (m : Nat → Int)

/-- Memory never rises along the list. -/
def Falls (l : List Nat) : Prop := l.Pairwise (fun a b => m b ≤ m a)

/-- What stands while two falling runs are merged: out holds the first i of F and the first j of S. -/
structure Mid (F S : List Nat) (i j : Nat) (out : List Nat) : Prop where
  hi : i ≤ F.length
  hj : j ≤ S.length
  perm : out.Perm (F.take i ++ S.take j)
  falls : Falls m out
  over : ∀ x ∈ out, ∀ y ∈ F.drop i ++ S.drop j, m y ≤ m x

theorem Mid.start (F S : List Nat) : Mid m F S 0 0 [] := ⟨Nat.zero_le _, Nat.zero_le _, by simp, List.Pairwise.nil, fun x hx => by cases hx⟩

theorem Mid.len {F S : List Nat} {i j : Nat} {out : List Nat} (h : Mid m F S i j out) : out.length = i + j := by
  rw [h.perm.length_eq]
  simp [Nat.min_eq_left h.hi, Nat.min_eq_left h.hj]

theorem falls_snoc {out : List Nat} {x : Nat} (h : Falls m out) (hx : ∀ y ∈ out, m x ≤ m y) : Falls m (out ++ [x]) := by
  unfold Falls
  rw [List.pairwise_append]
  refine ⟨h, by simp, ?_⟩
  intro a ha b hb
  simp at hb
  subst hb
  exact hx a ha

theorem falls_head {l : List Nat} {i : Nat} (h : Falls m l) (hi : i < l.length) : ∀ y ∈ l.drop (i + 1), m y ≤ m l[i] := by
  have h1 : (l.drop i).Pairwise (fun a b => m b ≤ m a) := h.sublist (List.drop_sublist i l)
  rw [List.drop_eq_getElem_cons hi] at h1
  exact (List.pairwise_cons.1 h1).1

theorem Mid.left {F S : List Nat} {i j : Nat} {out : List Nat} (h : Mid m F S i j out) (hF : Falls m F) (hS : Falls m S) (hi : i < F.length) (hc : j = S.length ∨ ∃ hj : j < S.length, m S[j] ≤ m F[i]) : Mid m F S (i + 1) j (out ++ [F[i]]) := by
  refine ⟨hi, h.hj, ?_, falls_snoc m h.falls (fun y hy => h.over y hy _ ?_), ?_⟩
  · rw [List.take_succ_eq_append_getElem hi]
    refine (h.perm.append_right [F[i]]).trans ?_
    simp only [List.append_assoc]
    exact List.Perm.append_left _ List.perm_append_comm
  · exact List.mem_append_left _ (mem_here hi)
  · intro x hx y hy
    rcases List.mem_append.1 hx with hx | hx
    · refine h.over x hx y ?_
      rcases List.mem_append.1 hy with hy | hy
      · exact List.mem_append_left _ (mem_later hy)
      · exact List.mem_append_right _ hy
    · simp at hx
      subst hx
      rcases List.mem_append.1 hy with hy | hy
      · exact falls_head m hF hi y hy
      · rcases hc with rfl | ⟨hj, hc⟩
        · simp at hy
        · rw [List.drop_eq_getElem_cons hj] at hy
          rcases List.mem_cons.1 hy with rfl | hy
          · exact hc
          · exact Int.le_trans (falls_head m hS hj y hy) hc

theorem Mid.right {F S : List Nat} {i j : Nat} {out : List Nat} (h : Mid m F S i j out) (hF : Falls m F) (hS : Falls m S) (hj : j < S.length) (hc : i = F.length ∨ ∃ hi : i < F.length, m F[i] ≤ m S[j]) : Mid m F S i (j + 1) (out ++ [S[j]]) := by
  refine ⟨h.hi, hj, ?_, falls_snoc m h.falls (fun y hy => h.over y hy _ ?_), ?_⟩
  · rw [List.take_succ_eq_append_getElem hj]
    refine (h.perm.append_right [S[j]]).trans ?_
    simp only [List.append_assoc]
    exact List.Perm.refl _
  · exact List.mem_append_right _ (mem_here hj)
  · intro x hx y hy
    rcases List.mem_append.1 hx with hx | hx
    · refine h.over x hx y ?_
      rcases List.mem_append.1 hy with hy | hy
      · exact List.mem_append_left _ hy
      · exact List.mem_append_right _ (mem_later hy)
    · simp at hx
      subst hx
      rcases List.mem_append.1 hy with hy | hy
      · rcases hc with rfl | ⟨hi, hc⟩
        · simp at hy
        · rw [List.drop_eq_getElem_cons hi] at hy
          rcases List.mem_cons.1 hy with rfl | hy
          · exact hc
          · exact Int.le_trans (falls_head m hF hi y hy) hc
      · exact falls_head m hS hj y hy

theorem Mid.done {F S out : List Nat} (h : Mid m F S F.length S.length out) : out.Perm (F ++ S) ∧ Falls m out := by
  refine ⟨?_, h.falls⟩
  have := h.perm
  simpa using this
end

/-- Insertion at place i. -/
theorem shift_step {α : Type} (L : List α) (x : α) (j : Nat) (hj : 0 < j) (hl : j ≤ L.length) : (L.take j ++ [x] ++ L.drop j).set j (L[j - 1]'(by omega)) = L.take (j - 1) ++ [L[j - 1]'(by omega)] ++ L.drop (j - 1) := by
  have e1 : L.drop (j - 1) = L[j - 1]'(by omega) :: L.drop j := by
    rw [List.drop_eq_getElem_cons (by omega)]
    congr 2
    omega
  have e2 : L.take j = L.take (j - 1) ++ [L[j - 1]'(by omega)] := by
    have := List.take_succ_eq_append_getElem (l := L) (i := j - 1) (by omega)
    rw [show j - 1 + 1 = j by omega] at this
    exact this
  rw [e1]
  rw [List.set_append, if_pos (by simp; omega), List.set_append, if_neg (by simp; omega)]
  simp only [List.length_take, Nat.min_eq_left hl, Nat.sub_self, List.set_cons_zero]
  rw [e2]
  simp

end Go.Proofs.Qxb6001285a
