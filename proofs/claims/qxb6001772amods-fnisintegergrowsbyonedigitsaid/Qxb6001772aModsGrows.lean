import Derived.Test.Qxb6001772aModsWalks
namespace Go.Proofs.Qxb6001772aMods
open Go.RowKit

theorem byte_of (a : Int) (h : (Lit.int .u8 a).wf = true) : ∃ c : UInt8, a = (c.toNat : Int) := by
  have hb : 0 ≤ a ∧ a ≤ 255 := by
    simp [Lit.wf, show IntKind.u8.min = 0 from rfl, show IntKind.u8.max = 255 from rfl] at h
    omega
  refine ⟨UInt8.ofNat a.toNat, ?_⟩
  have : a.toNat < 256 := by omega
  simp only [UInt8.toNat_ofNat']
  omega

set_option maxHeartbeats 400000 in
theorem bytes_any (s : ByteArray) (c : Int) (hs : s.size ≤ maxLen) (w : World) :
    Calls Trym.prog 9 #[.string s, .int .u8 c] w fun e w' => e = .returned (.bool (decide (s.size ≤ 1048576))) ∧ w' = w := by
  unfold maxLen at hs
  by_cases h : s.size ≤ 1048576
  · rw [decide_eq_true h]
    go_enter Trym.func9, Trym.ntmps9
    go_wp2
    go_ret
    exact ⟨rfl, rfl⟩
  · rw [decide_eq_false h]
    go_enter Trym.func9, Trym.ntmps9
    go_wp2
    go_ret
    exact ⟨rfl, rfl⟩

theorem one_byte (c : UInt8) (w : World) : (convert 26 9 (.slice (some ⟨w.heap.size, 0, none⟩) 1 1)).run Trym.prog (w.alloc (.cells #[.int .u8 (c.toNat : Int)] 5)) = .ok (.string ⟨#[c]⟩) (w.alloc (.cells #[.int .u8 (c.toNat : Int)] 5)) := by
  have := run_convert_bytes_back (P := Trym.prog) (w.alloc (.cells #[.int .u8 (c.toNat : Int)] 5)) 26 9 5 ⟨w.heap.size, 0, none⟩ 1 [c] Trym.underlying26 Trym.underlying5 Trym.underlying9 (by
    intro j hj
    match j, hj with
    | 0, _ => simp [Addr.add])
  exact this

theorem snoc_list (s : ByteArray) (c : UInt8) : (s ++ ⟨#[c]⟩ : ByteArray).data.toList = s.data.toList ++ [c] := by
  rw [ByteArray.data_append]; simp
theorem grow_s (s : ByteArray) (c : UInt8) : Pl.isInt (s ++ ⟨#[c]⟩ : ByteArray).data.toList =
    (Pl.isDigB c && (Pl.isInt s.data.toList || s.toList == [110, 117, 109, 98, 101, 114, 32] || s.toList == [110, 117, 109, 98, 101, 114, 32, 45])) := by
  rw [snoc_list, Pl.grow, ByteArray.toList_eq]; rfl
theorem dig_yes (c : UInt8) (h1 : (48 : Int) ≤ (c.toNat : Int)) (h2 : (c.toNat : Int) ≤ 57) : Pl.isDigB c = true := by
  unfold Pl.isDigB; rw [decide_eq_true (by omega), decide_eq_true (by omega)]; rfl
theorem dig_no (c : UInt8) (h : ¬ ((48 : Int) ≤ (c.toNat : Int) ∧ (c.toNat : Int) ≤ 57)) : Pl.isDigB c = false := by
  unfold Pl.isDigB
  by_cases h1 : 48 ≤ c.toNat
  · rw [decide_eq_false (show ¬ c.toNat ≤ 57 by omega), Bool.and_false]
  · rw [decide_eq_false h1, Bool.false_and]
theorem ext_size (s : ByteArray) (c : UInt8) (h : s.size ≤ 1048576) : (s ++ ⟨#[c]⟩ : ByteArray).size ≤ maxLen := by
  have : (s ++ ⟨#[c]⟩ : ByteArray).size = s.size + 1 := by rw [ByteArray.size_append]; rfl
  unfold maxLen; omega

set_option maxHeartbeats 800000 in
theorem growsNo (s : ByteArray) (c : UInt8) (hl : s.size ≤ 1048576) (hn : ¬ ((48 : Int) ≤ (c.toNat : Int) ∧ (c.toNat : Int) ≤ 57)) (w : World) :
    Calls Trym.prog 5 #[.string s, .int .u8 (c.toNat : Int)] w fun e w' => e = .returned (.bool true) ∧ Below w.heap.size w w' := by
  have ob := one_byte c
  have H : Hid (Pl.isInt (s ++ ⟨#[c]⟩ : ByteArray).data.toList = false) := by
    show _ = false
    rw [grow_s, dig_no c hn]; rfl
  have hs : s.size ≤ maxLen := by unfold maxLen; omega
  by_cases h1 : (48 : Int) ≤ (c.toNat : Int)
  · have h2 : ¬ (c.toNat : Int) ≤ 57 := fun h => hn ⟨h1, h⟩
    clear hn
    go_enter Trym.func5, Trym.ntmps5
    go_wp2_with fail
    refine (bytes_any _ _ hs _).mono ?_
    rintro e w' ⟨rfl, rfl⟩
    rw [decide_eq_true hl]
    go_wp2_with fail
    refine (zzIsInteger_any _ (ext_size s c hl) _).mono ?_
    rintro e w2 ⟨he, hb⟩
    rw [H.out] at he
    subst he
    go_wp2
    go_ret
    exact ⟨rfl, ((Below.refl _ _).alloc (Nat.le_refl _) _).trans (hb.mono (by simp))⟩
  · clear hn
    go_enter Trym.func5, Trym.ntmps5
    go_wp2_with fail
    refine (bytes_any _ _ hs _).mono ?_
    rintro e w' ⟨rfl, rfl⟩
    rw [decide_eq_true hl]
    go_wp2_with fail
    refine (zzIsInteger_any _ (ext_size s c hl) _).mono ?_
    rintro e w2 ⟨he, hb⟩
    rw [H.out] at he
    subst he
    go_wp2
    go_ret
    exact ⟨rfl, ((Below.refl _ _).alloc (Nat.le_refl _) _).trans (hb.mono (by simp))⟩

set_option maxHeartbeats 1600000 in
theorem growsYes (s : ByteArray) (c : UInt8) (hl : s.size ≤ 1048576) (h1 : (48 : Int) ≤ (c.toNat : Int)) (h2 : (c.toNat : Int) ≤ 57) (w : World) :
    Calls Trym.prog 5 #[.string s, .int .u8 (c.toNat : Int)] w fun e w' => e = .returned (.bool true) ∧ Below w.heap.size w w' := by
  have ob := one_byte c
  have hs : s.size ≤ maxLen := by unfold maxLen; omega
  have G : Hid (Pl.isInt (s ++ ⟨#[c]⟩ : ByteArray).data.toList = (Pl.isInt s.data.toList || s.toList == [110, 117, 109, 98, 101, 114, 32] || s.toList == [110, 117, 109, 98, 101, 114, 32, 45])) := by
    show _ = _
    rw [grow_s, dig_yes c h1 h2]; rfl
  cases hi : Pl.isInt s.data.toList <;> cases hn : (s.toList == [110, 117, 109, 98, 101, 114, 32]) <;> cases hm : (s.toList == [110, 117, 109, 98, 101, 114, 32, 45])
  all_goals
    have H := G.out
    rw [hi, hn, hm] at H
    simp only [Bool.or_true, Bool.or_false] at H
    have HH : Hid (Pl.isInt (s ++ ⟨#[c]⟩ : ByteArray).data.toList = _) := H
    have HI : Hid (Pl.isInt s.data.toList = _) := hi
    clear H G hi
    go_enter Trym.func5, Trym.ntmps5
    go_wp2_with fail
    refine (bytes_any _ _ hs _).mono ?_
    rintro e w' ⟨rfl, rfl⟩
    rw [decide_eq_true hl]
    go_wp2_with fail
    refine (zzIsInteger_any _ hs _).mono ?_
    rintro e w2 ⟨he, hb⟩
    rw [HI.out] at he
    subst he
    go_wp2_with fail
    refine (zzIsInteger_any _ (ext_size s c hl) _).mono ?_
    rintro e w3 ⟨he, hb3⟩
    rw [HH.out] at he
    subst he
    go_wp2
    go_ret
    have hz := hb.size
    exact ⟨rfl, (((Below.refl _ _).alloc (Nat.le_refl _) _).trans (hb.mono (by simp))).trans (hb3.mono (by simp at hz; omega))⟩

set_option maxHeartbeats 800000 in
theorem growsWalk (s : ByteArray) (a : Int) (hs : s.size ≤ maxLen) (ha : (Lit.int .u8 a).wf = true) (w : World) :
    Calls Trym.prog 5 #[.string s, .int .u8 a] w fun e w' => e = .returned (.bool true) ∧ Below w.heap.size w w' := by
  obtain ⟨c, rfl⟩ := byte_of a ha
  by_cases hl : s.size ≤ 1048576
  · by_cases h : (48 : Int) ≤ (c.toNat : Int) ∧ (c.toNat : Int) ≤ 57
    · exact growsYes s c hl h.1 h.2 w
    · exact growsNo s c hl h w
  · go_enter Trym.func5, Trym.ntmps5
    go_wp2_with fail
    refine (bytes_any _ _ hs _).mono ?_
    rintro e w' ⟨rfl, rfl⟩
    rw [decide_eq_false hl]
    go_wp2
    go_ret
    exact ⟨rfl, Below.refl _ _⟩
end Go.Proofs.Qxb6001772aMods
