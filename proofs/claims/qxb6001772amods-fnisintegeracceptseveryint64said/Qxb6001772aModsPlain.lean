namespace Go.Proofs.Qxb6001772aMods.Pl
def isDigB (c : UInt8) : Bool := decide (48 ≤ c.toNat) && decide (c.toNat ≤ 57)
def num : List UInt8 := [110, 117, 109, 98, 101, 114, 32]
def allDig (l : List UInt8) : Bool := l.all isDigB
def pre (l p : List UInt8) : Bool := p.isPrefixOf l
def cut (l p : List UInt8) : List UInt8 := if p.isPrefixOf l then l.drop p.length else l
def tail (t : List UInt8) : Bool := !(cut t [45]).isEmpty && (cut t [45]).all isDigB
def isInt (l : List UInt8) : Bool := num.isPrefixOf l && tail (cut l num)

theorem isInt_num (t : List UInt8) : isInt (num ++ t) = tail t := by
  have h : num.isPrefixOf (num ++ t) = true := by simp [List.isPrefixOf_iff_prefix]
  unfold isInt cut
  rw [if_pos h, h]
  simp
theorem isInt_no (l : List UInt8) (h : num.isPrefixOf l = false) : isInt l = false := by
  unfold isInt; rw [h]; rfl
theorem cut_minus (u : List UInt8) : cut (45 :: u) [45] = u := by
  simp [cut, List.isPrefixOf]
theorem cut_other (x : UInt8) (u : List UInt8) (h : x ≠ 45) : cut (x :: u) [45] = x :: u := by
  have : (45 == x) = false := by simp; exact fun e => h e.symm
  simp [cut, List.isPrefixOf, this]
theorem cut_nil : cut [] [45] = [] := by simp [cut, List.isPrefixOf]
theorem tail_grow (t : List UInt8) (c : UInt8) : tail (t ++ [c]) = (isDigB c && (tail t || t == [] || t == [45])) := by
  unfold tail
  match t with
  | [] =>
    by_cases hc : c = 45
    · subst hc; decide
    · simp [cut_other c [] hc, cut_nil]
  | x :: u =>
    by_cases hx : x = 45
    · subst hx
      rw [List.cons_append, cut_minus, cut_minus]
      cases u with
      | nil => simp
      | cons y v =>
        simp only [List.cons_append, List.isEmpty_cons, List.all_append, List.all_cons, List.all_nil]
        cases isDigB c <;> cases isDigB y <;> cases v.all isDigB <;> simp
    · rw [List.cons_append, cut_other _ _ hx, cut_other _ _ hx]
      simp only [List.isEmpty_cons, List.all_append, List.all_cons, List.all_nil]
      have : ((x :: u) == [45]) = false := by simp [hx]
      rw [this]
      cases isDigB c <;> cases isDigB x <;> cases u.all isDigB <;> simp
theorem grow (s : List UInt8) (c : UInt8) : isInt (s ++ [c]) = (isDigB c && (isInt s || s == num || s == num ++ [45])) := by
  cases h : num.isPrefixOf s with
  | true =>
    obtain ⟨t, rfl⟩ := List.isPrefixOf_iff_prefix.1 h
    rw [List.append_assoc, isInt_num, isInt_num, tail_grow]
    have e1 : (num ++ t == num) = (t == []) := by
      rw [Bool.eq_iff_iff]; simp
    have e2 : (num ++ t == num ++ [45]) = (t == [45]) := by
      rw [Bool.eq_iff_iff]; simp
    rw [e1, e2]
  | false =>
    have e1 : (s == num) = false := by
      rw [Bool.eq_false_iff]; intro e; have := eq_of_beq e; subst this; revert h; decide
    have e2 : (s == num ++ [45]) = false := by
      rw [Bool.eq_false_iff]; intro e; have := eq_of_beq e; subst this; revert h; decide
    rw [isInt_no s h, e1, e2]
    simp only [Bool.or_false, Bool.and_false]
    cases h2 : num.isPrefixOf (s ++ [c]) with
    | false => exact isInt_no _ h2
    | true =>
      obtain ⟨t, ht⟩ := List.isPrefixOf_iff_prefix.1 h2
      rcases List.eq_nil_or_concat t with rfl | ⟨t', d, rfl⟩
      · rw [List.append_nil] at ht
        rw [← ht]; decide
      · exfalso
        have : num ++ t' = s := by
          have h3 : (num ++ t') ++ [d] = s ++ [c] := by simpa [List.concat_eq_append] using ht
          exact (List.append_inj' h3 rfl).1
        rw [← this] at h
        have h4 : num.isPrefixOf (num ++ t') = true := by simp [List.isPrefixOf_iff_prefix]
        rw [h4] at h; cases h

def Dec (d : List UInt8) : Prop := d ≠ [] ∧ d.all isDigB = true
theorem dec_not_minus {d : List UInt8} (h : Dec d) : ∃ x u, d = x :: u ∧ x ≠ 45 := by
  cases d with
  | nil => exact absurd rfl h.1
  | cons x u =>
    refine ⟨x, u, rfl, ?_⟩
    rintro rfl
    have := h.2
    simp [isDigB] at this
theorem tail_dec {d : List UInt8} (h : Dec d) (e : List UInt8) : tail (d ++ e) = e.all isDigB := by
  obtain ⟨x, u, rfl, hx⟩ := dec_not_minus h
  unfold tail
  rw [List.cons_append, cut_other _ _ hx, ← List.cons_append, List.all_append, h.2]; simp
theorem tail_neg {d : List UInt8} (h : Dec d) (e : List UInt8) : tail (45 :: d ++ e) = e.all isDigB := by
  unfold tail
  rw [List.cons_append, cut_minus, List.all_append, h.2]
  have := h.1
  cases d with
  | nil => exact absurd rfl this
  | cons x u => simp
def IsDec (d : List UInt8) : Prop := Dec d ∨ ∃ t, d = 45 :: t ∧ Dec t
theorem isInt_dec {d : List UInt8} (h : IsDec d) (e : List UInt8) : isInt (num ++ (d ++ e)) = e.all isDigB := by
  rw [isInt_num]
  rcases h with h | ⟨t, rfl, h⟩
  · exact tail_dec h e
  · exact tail_neg h e
end Go.Proofs.Qxb6001772aMods.Pl
