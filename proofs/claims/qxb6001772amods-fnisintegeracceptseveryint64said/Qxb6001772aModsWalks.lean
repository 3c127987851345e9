import Derived.Test.Qxb6001772aModsRows
import Derived.Test.Qxb6001772aModsPlain
import Derived.WalkKit
import Derived.WalkSpells
import Derived.WalkLawsBesides
import Derived.Laws.IdiomStrings
namespace Go.Proofs.Qxb6001772aMods
open Go.RowKit

theorem extract_list (s : ByteArray) (a b : Nat) : (s.extract a b).data.toList = (s.data.toList.drop a).take (b - a) := by
  rw [ByteArray.data_extract, Array.toList_extract]
theorem size_list (s : ByteArray) : s.size = s.data.toList.length := by rw [Array.length_toList]; rfl

theorem pre_take (s p : ByteArray) : (decide (p.size ≤ s.size) && ((s.extract 0 p.size).toList == p.toList)) = Pl.pre s.data.toList p.data.toList := by
  unfold Pl.pre
  rw [ByteArray.toList_eq, ByteArray.toList_eq, extract_list]
  rw [size_list p, size_list s, Bool.eq_iff_iff]
  simp only [List.drop_zero, Nat.sub_zero, Bool.and_eq_true, decide_eq_true_eq, beq_iff_eq, List.isPrefixOf_iff_prefix, List.prefix_iff_eq_take]
  constructor
  · rintro ⟨_, h⟩; exact h.symm
  · intro h; refine ⟨?_, h.symm⟩
    have := congrArg List.length h
    simp at this ⊢; omega

set_option maxHeartbeats 400000 in
theorem hasPrefix_any (s p : ByteArray) (w : World) :
    Calls Trym.prog 17 #[.string s, .string p] w fun e w' => e = .returned (.bool (Pl.pre s.data.toList p.data.toList)) ∧ w' = w := by
  rw [← pre_take]
  by_cases h : p.size ≤ s.size
  · go_enter Trym.func17, Trym.ntmps17
    go_wp2
    go_ret
    refine ⟨?_, rfl⟩
    simp [h]
  · go_enter Trym.func17, Trym.ntmps17
    go_wp2
    go_ret
    refine ⟨?_, rfl⟩
    simp [h]

theorem cut_yes (s p : ByteArray) (h : Pl.pre s.data.toList p.data.toList = true) : (s.extract p.size s.size).data.toList = Pl.cut s.data.toList p.data.toList := by
  unfold Pl.pre at h
  rw [extract_list, Pl.cut, if_pos h, size_list p, size_list s, ← List.length_drop, List.take_length]
theorem cut_not (s p : ByteArray) (h : Pl.pre s.data.toList p.data.toList = false) : s.data.toList = Pl.cut s.data.toList p.data.toList := by
  unfold Pl.pre at h
  rw [Pl.cut, if_neg (by rw [h]; decide)]

theorem pre_size (s p : ByteArray) (h : Pl.pre s.data.toList p.data.toList = true) : p.size ≤ s.size := by
  rw [← pre_take, Bool.and_eq_true, decide_eq_true_eq] at h
  exact h.1

set_option maxHeartbeats 400000 in
theorem slCut_any (s p : ByteArray) (hs : s.size ≤ maxLen) (w : World) :
    Calls Trym.prog 14 #[.string s, .string p] w fun e w' => ∃ r : ByteArray, e = .returned (.tuple #[.string r, .bool (Pl.pre s.data.toList p.data.toList)]) ∧ r.data.toList = Pl.cut s.data.toList p.data.toList ∧ r.size ≤ maxLen ∧ w' = w := by
  unfold maxLen at hs ⊢
  cases h : Pl.pre s.data.toList p.data.toList with
  | true =>
    have hp := pre_size s p h
    have hc := cut_yes s p h
    go_enter Trym.func14, Trym.ntmps14
    go_wp2_with (go_at_call 17; refine (hasPrefix_any _ _ _).mono ?_; rintro e w' ⟨rfl, rfl⟩)
    go_ret2
    exact ⟨_, rfl, hc, by simp; omega, rfl⟩
  | false =>
    go_enter Trym.func14, Trym.ntmps14
    go_wp2_with (go_at_call 17; refine (hasPrefix_any _ _ _).mono ?_; rintro e w' ⟨rfl, rfl⟩)
    go_ret2
    exact ⟨_, rfl, cut_not s p h, hs, rfl⟩

set_option maxHeartbeats 400000 in
theorem cut_any (s p : ByteArray) (hs : s.size ≤ maxLen) (w : World) :
    Calls Trym.prog 11 #[.string s, .string p] w fun e w' => ∃ r : ByteArray, e = .returned (.tuple #[.string r, .bool (Pl.pre s.data.toList p.data.toList)]) ∧ r.data.toList = Pl.cut s.data.toList p.data.toList ∧ r.size ≤ maxLen ∧ w' = w := by
  go_enter Trym.func11, Trym.ntmps11
  go_wp2_with (go_at_call 14; refine (slCut_any _ _ hs _).mono ?_; rintro e w' ⟨r, rfl, hr, hz, rfl⟩)
  go_ret2
  exact ⟨_, rfl, hr, hz, rfl⟩

set_option maxHeartbeats 400000 in
theorem slTrim_any (s p : ByteArray) (hs : s.size ≤ maxLen) (w : World) :
    Calls Trym.prog 15 #[.string s, .string p] w fun e w' => ∃ r : ByteArray, e = .returned (.string r) ∧ r.data.toList = Pl.cut s.data.toList p.data.toList ∧ r.size ≤ maxLen ∧ w' = w := by
  unfold maxLen at hs ⊢
  cases h : Pl.pre s.data.toList p.data.toList with
  | true =>
    have hp := pre_size s p h
    have hc := cut_yes s p h
    go_enter Trym.func15, Trym.ntmps15
    go_wp2_with (go_at_call 17; refine (hasPrefix_any _ _ _).mono ?_; rintro e w' ⟨rfl, rfl⟩)
    go_ret
    exact ⟨_, rfl, hc, by simp; omega, rfl⟩
  | false =>
    go_enter Trym.func15, Trym.ntmps15
    go_wp2_with (go_at_call 17; refine (hasPrefix_any _ _ _).mono ?_; rintro e w' ⟨rfl, rfl⟩)
    go_ret
    exact ⟨_, rfl, cut_not s p h, hs, rfl⟩

set_option maxHeartbeats 400000 in
theorem trim_any (s p : ByteArray) (hs : s.size ≤ maxLen) (w : World) :
    Calls Trym.prog 12 #[.string s, .string p] w fun e w' => ∃ r : ByteArray, e = .returned (.string r) ∧ r.data.toList = Pl.cut s.data.toList p.data.toList ∧ r.size ≤ maxLen ∧ w' = w := by
  go_enter Trym.func12, Trym.ntmps12
  go_wp2_with (go_at_call 15; refine (slTrim_any _ _ hs _).mono ?_; rintro e w' ⟨r, rfl, hr, hz, rfl⟩)
  go_ret
  exact ⟨_, rfl, hr, hz, rfl⟩

set_option maxHeartbeats 400000 in
theorem isDigit_any (c : UInt8) (w : World) :
    Calls Trym.prog 16 #[.int .u8 (c.toNat : Int)] w fun e w' => e = .returned (.bool (Pl.isDigB c)) ∧ w' = w := by
  unfold Pl.isDigB
  by_cases h1 : 48 ≤ c.toNat
  · have g1 : (48 : Int) ≤ (c.toNat : Int) := by omega
    by_cases h2 : c.toNat ≤ 57
    · have g2 : (c.toNat : Int) ≤ 57 := by omega
      rw [decide_eq_true h1, decide_eq_true h2]
      go_enter Trym.func16, Trym.ntmps16
      go_wp2
      go_ret
      exact ⟨rfl, rfl⟩
    · have g2 : ¬ (c.toNat : Int) ≤ 57 := by omega
      rw [decide_eq_true h1, decide_eq_false h2]
      go_enter Trym.func16, Trym.ntmps16
      go_wp2
      go_ret
      exact ⟨rfl, rfl⟩
  · have g1 : ¬ (48 : Int) ≤ (c.toNat : Int) := by omega
    rw [decide_eq_false h1, Bool.false_and]
    go_enter Trym.func16, Trym.ntmps16
    go_wp2
    go_ret
    exact ⟨rfl, rfl⟩

set_option maxHeartbeats 400000 in
theorem digits_any (b cap : Nat) (l : List UInt8) (w : World) (hl : l.length ≤ maxLen)
    (hc : ∀ i (h : i < l.length), w.cell? ⟨b, i, none⟩ = some (.int .u8 ((l[i]).toNat : Int))) :
    ∀ n, l.length = n → Calls Trym.prog 13 #[.slice (some ⟨b, 0, none⟩) n cap] w fun e w' => e = .returned (.bool (Pl.allDig l)) ∧ w' = w := by
  unfold maxLen at hl
  intro n hn
  subst hn
  go_enter Trym.func13, Trym.ntmps13
  go_wp2
  go_loop [7] (fun i => ∃ k : Nat, k ≤ l.length ∧ i = .int .i64 k ∧ (l.take k).all Pl.isDigB = true) (fun i => l.length - (intOf i).toNat)
  case atStart => exact ⟨0, Nat.zero_le _, rfl, rfl⟩
  case round =>
    obtain ⟨k, hk, rfl, hall⟩ := hrel
    by_cases hlt : k < l.length
    · have hcell := hc k hlt
      cases hd : Pl.isDigB l[k] with
      | true =>
        have H : Hid ((l.take (k + 1)).all Pl.isDigB = true) := by
          show _ = true
          rw [List.take_succ_eq_append_getElem hlt, List.all_append, hall]; simp [hd]
        go_wp2_with (go_at_call 16; refine (isDigit_any _ _).mono ?_; rintro e w' ⟨rfl, rfl⟩)
        go_round
        case rel => exact ⟨k + 1, by omega, by go_num, H.out⟩
        case measure => simp [intOf]; omega
      | false =>
        have H : Hid (Pl.allDig l = false) := by
          show l.all Pl.isDigB = false
          rw [List.all_eq_false]; exact ⟨l[k], List.getElem_mem hlt, by rw [hd]; decide⟩
        go_wp2_with (go_at_call 16; refine (isDigit_any _ _).mono ?_; rintro e w' ⟨rfl, rfl⟩)
        go_ret
        exact ⟨by rw [H.out]; rfl, rfl⟩
    · have H : Hid (Pl.allDig l = true) := by
        show l.all Pl.isDigB = true
        rw [List.take_of_length_le (by omega)] at hall; exact hall
      go_wp2
      go_ret
      exact ⟨by rw [H.out]; rfl, rfl⟩

/-- What '[]byte(s)' lays. -/
def laid (w : World) (r : ByteArray) : Obj := .cells (bytesRow r (grownCap w r.size 0 5)) 5 ((bytesRow r (grownCap w r.size 0 5)).size, (bytesRow r (grownCap w r.size 0 5)).size + 1)
theorem conv_run (w : World) (r : ByteArray) : (convert 9 26 (.string r)).run Trym.prog w = .ok (.slice (some ⟨w.heap.size, 0, none⟩) r.size (grownCap w r.size 0 5)) (w.alloc (laid w r)).drew :=
  run_bytes_of_string (P := Trym.prog) w 9 26 5 r Trym.underlying9 Trym.underlying26 Trym.underlying5
theorem laid_cell (w : World) (r : ByteArray) (i : Nat) (h : i < r.data.toList.length) : (w.alloc (laid w r)).drew.cell? ⟨w.heap.size, i, none⟩ = some (.int .u8 ((r.data.toList[i]).toNat : Int)) := by
  show (w.alloc (laid w r)).cell? _ = _
  unfold laid
  rw [World.cell?_alloc_mark, bytesRow_at _ _ _ (by simpa using h)]
  simp

theorem isInt_via {s r r2 : ByteArray} (hr : r.data.toList = Pl.cut s.data.toList [110, 117, 109, 98, 101, 114, 32]) (hr2 : r2.data.toList = Pl.cut r.data.toList [45]) :
    Pl.isInt s.data.toList = (Pl.pre s.data.toList [110, 117, 109, 98, 101, 114, 32] && (!r2.toList.isEmpty && Pl.allDig r2.data.toList)) := by
  rw [ByteArray.toList_eq, hr2, hr]; rfl
theorem ret_bool {a b : Bool} (h : a = b) : Ending.returned (.bool a) = .returned (.bool b) := by rw [h]

set_option maxHeartbeats 400000 in
theorem isInteger_any (s : ByteArray) (hs : s.size ≤ maxLen) (w : World) :
    Calls Trym.prog 10 #[.string s] w fun e w' => e = .returned (.bool (Pl.isInt s.data.toList)) ∧ Below w.heap.size w w' := by
  have cv := conv_run
  cases h : Pl.pre s.data.toList [110, 117, 109, 98, 101, 114, 32] with
  | false =>
    go_enter Trym.func10, Trym.ntmps10
    go_wp2_with fail
    refine (cut_any _ _ hs _).mono ?_
    rintro e w' ⟨r, rfl, hr, hz, rfl⟩
    go_wp2_with fail
    refine (trim_any _ _ hz _).mono ?_
    rintro e w' ⟨r2, rfl, hr2, hz2, rfl⟩
    have H : Hid (Pl.isInt s.data.toList = false) := by
      show _ = false
      rw [isInt_via hr hr2, h]; rfl
    clear hr hr2
    go_wp2
    go_ret
    exact ⟨ret_bool H.out.symm, Below.refl _ _⟩
  | true =>
    go_enter Trym.func10, Trym.ntmps10
    go_wp2_with fail
    refine (cut_any _ _ hs _).mono ?_
    rintro e w' ⟨r, rfl, hr, hz, rfl⟩
    go_wp2_with fail
    refine (trim_any _ _ hz _).mono ?_
    rintro e w' ⟨r2, rfl, hr2, hz2, rfl⟩
    have H : Hid (Pl.isInt s.data.toList = (!r2.toList.isEmpty && Pl.allDig r2.data.toList)) := by
      show _ = _
      rw [isInt_via hr hr2, h]; rfl
    clear hr hr2
    cases he : r2.toList.isEmpty with
    | true =>
      have H2 : Hid (Pl.isInt s.data.toList = false) := by show _ = false; rw [H.out, he]; rfl
      clear H
      go_wp2
      go_ret
      exact ⟨ret_bool H2.out.symm, Below.refl _ _⟩
    | false =>
      have H2 : Hid (Pl.isInt s.data.toList = Pl.allDig r2.data.toList) := by show _ = _; rw [H.out, he]; rfl
      clear H
      go_wp2_with fail
      refine (digits_any _ _ r2.data.toList _ (by rw [← size_list]; exact hz2) (laid_cell _ _) _ (size_list r2).symm).mono ?_
      rintro e w2 ⟨rfl, rfl⟩
      go_wp2
      go_ret
      exact ⟨ret_bool H2.out.symm, ((Below.refl _ _).alloc (Nat.le_refl _) _).drew⟩

set_option maxHeartbeats 400000 in
theorem zzIsInteger_any (s : ByteArray) (hs : s.size ≤ maxLen) (w : World) :
    Calls Trym.prog 7 #[.string s] w fun e w' => e = .returned (.bool (Pl.isInt s.data.toList)) ∧ Below w.heap.size w w' := by
  go_enter Trym.func7, Trym.ntmps7
  go_wp2_with fail
  refine (isInteger_any _ hs _).mono ?_
  rintro e w' ⟨rfl, hb⟩
  go_wp2
  go_ret
  exact ⟨rfl, hb⟩
end Go.Proofs.Qxb6001772aMods
