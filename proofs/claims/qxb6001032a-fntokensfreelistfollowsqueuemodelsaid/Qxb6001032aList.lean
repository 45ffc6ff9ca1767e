/- PLAIN LISTS: the queue of free names; who stands before and behind a name. No Go in sight. -/
namespace Go.Proofs.Qxb6001032a
set_option linter.unusedSectionVars false

section
variable {α : Type} [DecidableEq α]

/-- Who stands right behind s. -/
def newer : List α → α → Option α
  | [], _ => none
  | a :: l, s => if a = s then l.head? else newer l s

/-- Who stands right before s. -/
def older (l : List α) (s : α) : Option α := newer l.reverse s

theorem newer_not_mem : ∀ {l : List α} {s : α}, s ∉ l → newer l s = none
  | [], _, _ => rfl
  | a :: l, s, h => by
    simp only [List.mem_cons, not_or] at h
    simp only [newer]
    rw [if_neg (fun e => h.1 e.symm)]
    exact newer_not_mem h.2

theorem newer_split : ∀ {l1 : List α} {s : α} {l2 : List α}, s ∉ l1 → newer (l1 ++ s :: l2) s = l2.head?
  | [], s, l2, _ => by simp [newer]
  | a :: l1, s, l2, h => by
    simp only [List.mem_cons, not_or] at h
    simp only [List.cons_append, newer]
    rw [if_neg (fun e => h.1 e.symm)]
    exact newer_split h.2

/-- One that is passed over on the way: what stands ahead counts no more. -/
theorem newer_append_right : ∀ {l1 l2 : List α} {s : α}, s ∉ l1 → newer (l1 ++ l2) s = newer l2 s
  | [], l2, s, _ => rfl
  | a :: l1, l2, s, h => by
    simp only [List.mem_cons, not_or] at h
    simp only [List.cons_append, newer]
    rw [if_neg (fun e => h.1 e.symm)]
    exact newer_append_right h.2

theorem newer_snoc_last : ∀ {l1 l2 : List α} {p : α}, p ∉ l1 → newer (l1 ++ [p] ++ l2) p = l2.head? := by
  intro l1 l2 p h
  rw [List.append_assoc]
  exact newer_split h

/-- One of the list's first part that is not its last: what stands behind that part counts not. -/
theorem newer_append_left : ∀ {l1 l2 l3 : List α} {s : α}, s ∈ l1 → l1.getLast? ≠ some s → newer (l1 ++ l2) s = newer (l1 ++ l3) s
  | [], _, _, _, h, _ => by cases h
  | [a], _, _, s, h, h' => by simp at h; subst h; simp at h'
  | a :: b :: l1, l2, l3, s, h, h' => by
    simp only [List.cons_append, newer]
    by_cases e : a = s
    · rw [if_pos e, if_pos e]; rfl
    · rw [if_neg e, if_neg e]
      have hm : s ∈ b :: l1 := by
        rcases List.mem_cons.1 h with rfl | h
        · exact absurd rfl e
        · exact h
      have hl : (b :: l1).getLast? ≠ some s := by simpa [List.getLast?_cons_cons] using h'
      simpa only [List.cons_append, newer] using newer_append_left (l2 := l2) (l3 := l3) hm hl

theorem newer_mem : ∀ {l : List α} {s t : α}, newer l s = some t → t ∈ l
  | [], _, _, h => by simp [newer] at h
  | a :: l, s, t, h => by
    simp only [newer] at h
    by_cases e : a = s
    · rw [if_pos e] at h
      exact List.mem_cons_of_mem _ (List.mem_of_mem_head? h)
    · rw [if_neg e] at h
      exact List.mem_cons_of_mem _ (newer_mem h)

theorem older_not_mem {l : List α} {s : α} (h : s ∉ l) : older l s = none := newer_not_mem (by simpa using h)

theorem older_split {l1 : List α} {s : α} {l2 : List α} (h : s ∉ l2) : older (l1 ++ s :: l2) s = l1.getLast? := by
  unfold older
  rw [List.reverse_append, List.reverse_cons, List.append_assoc]
  have := newer_split (l1 := l2.reverse) (s := s) (l2 := l1.reverse) (by simpa using h)
  rw [List.head?_reverse] at this
  simpa using this

theorem older_mem {l : List α} {s t : α} (h : older l s = some t) : t ∈ l := by simpa using newer_mem h

theorem older_append_left {l1 l2 : List α} {s : α} (h : s ∉ l2) : older (l1 ++ l2) s = older l1 s := by
  unfold older
  rw [List.reverse_append]
  exact newer_append_right (by simpa using h)

theorem older_append_right {l1 l2 l3 : List α} {s : α} (h : s ∈ l2) (h' : l2.head? ≠ some s) : older (l1 ++ l2) s = older (l3 ++ l2) s := by
  unfold older
  rw [List.reverse_append, List.reverse_append]
  refine newer_append_left (by simpa using h) ?_
  rw [List.getLast?_reverse]
  exact h'

/-- Is s on the list? -/
def isIn (l : List α) (s : α) : Bool := l.any (fun t => decide (t = s))

theorem isIn_true {l : List α} {s : α} : isIn l s = true ↔ s ∈ l := by
  simp [isIn]

theorem isIn_false {l : List α} {s : α} : isIn l s = false ↔ s ∉ l := by
  rw [← isIn_true]; simp

/-- The queue without s. -/
def sans (l : List α) (s : α) : List α := l.filter (fun t => decide (t ≠ s))

theorem sans_not_mem {l : List α} {s : α} (h : s ∉ l) : sans l s = l := by
  unfold sans
  rw [List.filter_eq_self]
  intro a ha
  simp only [decide_eq_true_eq]
  intro e
  exact h (e ▸ ha)

theorem sans_split {l1 l2 : List α} {s : α} (h1 : s ∉ l1) (h2 : s ∉ l2) : sans (l1 ++ s :: l2) s = l1 ++ l2 := by
  have e1 := sans_not_mem h1
  have e2 := sans_not_mem h2
  unfold sans at e1 e2 ⊢
  rw [List.filter_append, e1, List.filter_cons, if_neg (by simp), e2]

theorem mem_sans {l : List α} {s t : α} : t ∈ sans l s ↔ t ∈ l ∧ t ≠ s := by simp [sans]

theorem split_of_mem {l : List α} {s : α} (hn : l.Nodup) (h : s ∈ l) : ∃ l1 l2, l = l1 ++ s :: l2 ∧ s ∉ l1 ∧ s ∉ l2 := by
  obtain ⟨l1, l2, rfl⟩ := List.append_of_mem h
  refine ⟨l1, l2, rfl, ?_, ?_⟩
  · intro h1
    have := (List.nodup_append.1 hn).2.2 s h1 s (by simp)
    exact this rfl
  · have := (List.nodup_cons.1 (List.nodup_append.1 hn).2.1).1
    exact this

theorem nodup_sans {l : List α} {s : α} (h : l.Nodup) : (sans l s).Nodup := h.sublist (List.filter_sublist)

theorem nodup_snoc {l : List α} {s : α} (h : l.Nodup) (hs : s ∉ l) : (l ++ [s]).Nodup := by
  rw [List.nodup_append]
  refine ⟨h, by simp, ?_⟩
  intro a ha b hb
  simp at hb
  subst hb
  intro e
  exact hs (e ▸ ha)

theorem length_le_of_nodup : ∀ {l m : List α}, l.Nodup → (∀ x ∈ l, x ∈ m) → l.length ≤ m.length
  | [], _, _, _ => Nat.zero_le _
  | a :: l, m, hn, h => by
    obtain ⟨h1, h2⟩ := List.nodup_cons.1 hn
    have ha : a ∈ m := h a (by simp)
    have := length_le_of_nodup (l := l) (m := m.erase a) h2 (fun x hx => by
      have hne : x ≠ a := fun e => h1 (e ▸ hx)
      exact (List.mem_erase_of_ne hne).2 (h x (by simp [hx])))
    rw [List.length_erase_of_mem ha] at this
    have : 0 < m.length := List.length_pos_of_mem ha
    simp
    omega

theorem length_sans {l : List α} {s : α} (hn : l.Nodup) (h : s ∈ l) : (sans l s).length + 1 = l.length := by
  obtain ⟨l1, l2, rfl, h1, h2⟩ := split_of_mem hn h
  rw [sans_split h1 h2]
  simp
  omega

end
end Go.Proofs.Qxb6001032a
