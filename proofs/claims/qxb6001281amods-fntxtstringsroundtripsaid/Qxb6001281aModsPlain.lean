namespace Go.Proofs.Qxb6001281aMods.Pl

/-- One string as a TXT character-string. -/
def one (s : ByteArray) : List UInt8 := UInt8.ofNat s.size :: s.data.toList
/-- The strings laid out. -/
def enc (ss : List ByteArray) : List UInt8 := ss.flatMap one

theorem size_list (s : ByteArray) : s.data.toList.length = s.size := by rw [Array.length_toList]; rfl
theorem one_len (s : ByteArray) : (one s).length = 1 + s.size := by
  unfold one; rw [List.length_cons, size_list]; omega
theorem enc_nil : enc [] = [] := rfl
theorem enc_snoc (ss : List ByteArray) (k : Nat) (h : k < ss.length) : enc (ss.take (k + 1)) = enc (ss.take k) ++ one ss[k] := by
  unfold enc; rw [List.take_succ_eq_append_getElem h, List.flatMap_append]; simp
theorem enc_split (ss : List ByteArray) (k : Nat) (h : k < ss.length) : enc ss = enc (ss.take k) ++ (one ss[k] ++ enc (ss.drop (k + 1))) := by
  have e : ss = ss.take k ++ (ss[k] :: ss.drop (k + 1)) := by rw [← List.drop_eq_getElem_cons h, List.take_append_drop]
  conv => lhs; rw [e]
  unfold enc; rw [List.flatMap_append, List.flatMap_cons]
theorem enc_drop (ss : List ByteArray) (k : Nat) (h : k < ss.length) : enc (ss.drop k) = one ss[k] ++ enc (ss.drop (k + 1)) := by
  rw [List.drop_eq_getElem_cons h]; unfold enc; rw [List.flatMap_cons]
theorem enc_all (ss : List ByteArray) (k : Nat) : enc (ss.take k) ++ enc (ss.drop k) = enc ss := by
  unfold enc; rw [← List.flatMap_append, List.take_append_drop]
theorem len_snoc (ss : List ByteArray) (k : Nat) (h : k < ss.length) : (enc (ss.take (k + 1))).length = (enc (ss.take k)).length + (1 + ss[k].size) := by
  rw [enc_snoc ss k h, List.length_append, one_len]
theorem len_split (ss : List ByteArray) (k : Nat) (h : k < ss.length) : (enc ss).length = (enc (ss.take k)).length + (1 + ss[k].size) + (enc (ss.drop (k + 1))).length := by
  rw [enc_split ss k h, List.length_append, List.length_append, one_len]; omega
theorem len_bound (ss : List ByteArray) : (∀ i (h : i < ss.length), (ss[i]).size ≤ 255) → (enc ss).length ≤ 256 * ss.length := by
  induction ss with
  | nil => intro _; simp [enc]
  | cons x l ih =>
    intro h
    have h0 := h 0 (by simp)
    have hl := ih (fun i hi => by have := h (i + 1) (by simp; omega); simpa using this)
    have e : enc (x :: l) = one x ++ enc l := by unfold enc; rw [List.flatMap_cons]
    rw [e, List.length_append, one_len]
    simp at h0 ⊢
    omega
theorem enc_pos (ss : List ByteArray) (h : (enc ss).length = 0) : ss = [] := by
  cases ss with
  | nil => rfl
  | cons x l =>
    have e : enc (x :: l) = one x ++ enc l := by unfold enc; rw [List.flatMap_cons]
    rw [e, List.length_append, one_len] at h
    omega
end Go.Proofs.Qxb6001281aMods.Pl
