import Derived.Test.Qxb6001779aModsWalks
namespace Go.Proofs.Qxb6001779aMods
open Go.RowKit

/-- What is left of the list once every item equal to s is struck. -/
def kept (s : ByteArray) (ss : List ByteArray) : List ByteArray := ss.filter fun x => !(x.toList == s.toList)

theorem kept_len (s : ByteArray) (ss : List ByteArray) : (kept s ss).length ≤ ss.length := List.length_filter_le _ _
theorem kept_take_len (s : ByteArray) (ss : List ByteArray) (k : Nat) : (kept s (ss.take k)).length ≤ k := by
  have := kept_len s (ss.take k); have h2 := List.length_take_le k ss; omega
theorem kept_hit {s : ByteArray} {ss : List ByteArray} {k : Nat} (h : k < ss.length) (e : (ss[k].toList == s.toList) = false) : kept s (ss.take (k + 1)) = kept s (ss.take k) ++ [ss[k]] := by
  unfold kept; rw [List.take_succ_eq_append_getElem h, List.filter_append]; simp [e]
theorem kept_miss {s : ByteArray} {ss : List ByteArray} {k : Nat} (h : k < ss.length) (e : (ss[k].toList == s.toList) = true) : kept s (ss.take (k + 1)) = kept s (ss.take k) := by
  unfold kept; rw [List.take_succ_eq_append_getElem h, List.filter_append]; simp [e]

theorem has_kept_self (s : ByteArray) (ss : List ByteArray) : has (kept s ss) s = false := by
  unfold has kept
  rw [List.any_eq_false]
  intro x hx
  rw [List.mem_filter] at hx
  have := hx.2
  simpa using this
theorem has_shrink (s : ByteArray) : ∀ ss : List ByteArray, has ss s = decide ((kept s ss).length < ss.length)
  | [] => rfl
  | x :: l => by
    have ih := has_shrink s l
    have hk := kept_len s l
    unfold has kept at *
    cases h : (x.toList == s.toList) with
    | true => simp [h]; omega
    | false => simp only [List.any_cons, h, Bool.false_or, List.filter_cons, Bool.not_false, if_true, List.length_cons]; rw [ih]; simp
theorem has_kept_other {s t : ByteArray} (hne : (t.toList == s.toList) = false) (ss : List ByteArray) : has (kept s ss) t = has ss t := by
  unfold has kept
  rw [List.any_filter]
  congr 1
  funext x
  cases h : (x.toList == t.toList) with
  | false => simp
  | true =>
    have := eq_of_beq h
    rw [this, hne]; rfl

/-- Strings as cells. -/
def strs (ss : List ByteArray) : List Value := ss.map Value.string
theorem strs_filled (ss : List ByteArray) (n : Nat) : Filled ss n (strs ss) := by
  intro j hj _
  simp [strs, List.getElem?_eq_getElem hj]
theorem strs_snoc (ss : List ByteArray) (x : ByteArray) : strs ss ++ [.string x] = strs (ss ++ [x]) := by simp [strs]

set_option maxHeartbeats 1600000 in
theorem shrinksWalk (a : Option Addr) (cap : Nat) (ss : List ByteArray) (s t : ByteArray) (w : World) (hl : ss.length ≤ 9223372036854775807) (hs : s.size ≤ 9223372036854775807) (ht : t.size ≤ 9223372036854775807) (hr : Row w a ss) :
    Calls Trym.prog 5 #[.slice a ss.length cap, .string s, .string t] w fun e w' => e = .returned (.bool true) ∧ Below w.heap.size w w' := by
  by_cases h1 : ss.length ≤ 65536
  · by_cases h2 : s.size ≤ 1048576
    · by_cases h3 : t.size ≤ 1048576
      · go_enter Trym.func5, Trym.ntmps5
        go_wp2_with fail
        refine (bytes12_any _ _ ss _ _ _ hl hr).mono ?_
        rintro e w' ⟨⟨r, rfl⟩, rfl⟩
        cases r with
        | false =>
          go_wp2
          go_ret
          exact ⟨rfl, Below.refl _ _⟩
        | true =>
          go_wp2_with fail
          refine (weigh_any _ _ ss _ hl hr).mono ?_
          rintro e w' ⟨⟨r, rfl, hr0, hr1⟩, rfl⟩
          by_cases h4 : (s.size : Int) + (t.size : Int) + r ≤ 1048576
          · go_wp2_with fail
            refine (clone_any _ _ ss _ h1 hr).mono ?_
            rintro e w1 ⟨a', cap', rfl, hrow, hb1⟩
            have HB1 : Hid (Below w'.heap.size w' w1) := hb1
            clear hb1 hr
            obtain ⟨i0, hi, hz0, hz1, hz2⟩ := info_parts Trym.info9
            go_wp2_with (at_make; refine wpList_make_own _ rfl _ _ 22 rfl w1.heap.size 9 i0 (.string ByteArray.empty) 1 Trym.underlying22 hi hz0 hz1 _ _ _ ss.length rfl rfl rfl ?b2 ?b3 ?b4 ?_)
            case b2 => rw [hz2]; omega
            case b3 => unfold maxLen; omega
            case b4 => exact Nat.le_refl _
            intro w2 hown hgrow
            have HO : Hid (Own w2 w1.heap.size w1.heap.size 0 ss.length []) := hown
            have HB2 : Hid (Below w1.heap.size w1 w2) := (Below.refl _ _).grown hgrow (Nat.le_refl _) (fun _ h => by cases h)
            clear hown hgrow hz0 hz2
            go_wp2
            go_loopw [7, 8] (fun v i wr => ∃ (k m : Nat), k ≤ ss.length ∧ m ≤ k ∧ i = .int .i64 k ∧ v = .slice (some ⟨w1.heap.size, 0, none⟩) m ss.length ∧ Hid (Own wr w1.heap.size w1.heap.size m ss.length (strs (kept s (ss.take k)))) ∧ Hid (Below w1.heap.size w1 wr)) (fun _ i _ => ss.length - (intOf i).toNat)
            case atStart => exact ⟨0, 0, Nat.zero_le _, Nat.le_refl _, rfl, rfl, HO, HB2⟩
            case round =>
              obtain ⟨k, m, hk, hmk, rfl, rfl, HO, HB⟩ := hrel
              by_cases hlt : k < ss.length
              · obtain ⟨b, off, rfl, hb, hc⟩ := hrow k hlt
                have hcell : wr.cell? ⟨b, off + k, none⟩ = some (.string ss[k]) := (HB.out.cell (p := ⟨b, off + k, none⟩) hb).trans hc
                clear hc
                cases hd : (ss[k].toList == s.toList) with
                | true =>
                  have HE : Hid (kept s (ss.take (k + 1)) = kept s (ss.take k)) := kept_miss hlt hd
                  go_wp2
                  go_roundw
                  case rel => exact ⟨k + 1, m, by omega, by omega, by go_num, rfl, by rw [HE.out]; exact HO, HB⟩
                  case measure => simp [intOf]; omega
                | false =>
                  have HE : Hid (kept s (ss.take (k + 1)) = kept s (ss.take k) ++ [ss[k]]) := kept_hit hlt hd
                  have hbs := HB.out.size
                  have hg := own_lt HO.out
                  go_wp2_with (at_builtin; refine wpList_append_fits _ rfl _ _ 22 rfl w1.heap.size 9 i0 1 Trym.underlying22 hi hz1 w1.heap.size m ss.length (strs (kept s (ss.take k))) rfl (World.ownsRow.alloc HO.out _) ⟨wr.heap.size, 0, none⟩ 1 1 [.string ss[k]] rfl rfl ?c1 ?c2 ?c3 ?_)
                  case c1 =>
                    intro j u hj
                    match j, hj with
                    | 0, hj => simp at hj; subst hj; simp [Addr.add]
                  case c2 => intro u hu; simp at hu; subst hu; rfl
                  case c3 => omega
                  intro w3 hown3 hgrow3
                  have HO3 : Hid (Own w3 w1.heap.size w1.heap.size (m + 1) ss.length (strs (kept s (ss.take (k + 1))))) := by
                    rw [HE.out, ← strs_snoc]; exact hown3
                  have HB3 : Hid (Below w1.heap.size w1 w3) := (HB.out.alloc HB.out.size _).grown hgrow3 (by simp; omega) (fun _ h => by cases h; exact Nat.le_refl _)
                  clear hown3 hgrow3 HO HB
                  go_wp2
                  go_roundw
                  case rel => exact ⟨k + 1, m + 1, by omega, by omega, by go_num, rfl, HO3, HB3⟩
                  case measure => simp [intOf]; omega
              · have hke : ss.take k = ss := List.take_of_length_le (by omega)
                have HM : Hid ((kept s ss).length = m) := by
                  have := own_len HO.out
                  rw [hke] at this
                  show (kept s ss).length = m
                  simpa [strs] using this
                have HR : Hid (Row wr (some ⟨w1.heap.size, 0, none⟩) (kept s ss)) := by
                  have := HO.out
                  rw [hke] at this
                  exact own_row this HM.out (strs_filled _ _)
                have HL : Hid (Row wr a' ss) := row_below hrow HB.out
                have hml : (kept s ss).length ≤ 9223372036854775807 := by have := kept_len s ss; omega
                have HF : Hid (Below w'.heap.size w' wr) := HB1.out.trans (HB.out.mono HB1.out.size)
                have HS : Hid (has ss s = decide (m < ss.length)) := by
                  have := has_shrink s ss
                  rw [HM.out] at this; exact this
                have HK : Hid (has (kept s ss) s = false) := has_kept_self s ss
                clear hke hrow HO HB HB1 HB2 hi hz1
                have HT : Hid ((t.toList == s.toList) = false → has (kept s ss) t = has ss t) := fun h => has_kept_other h ss
                obtain ⟨q, HQ⟩ : ∃ q, Hid (has ss s = q) := ⟨_, rfl⟩
                obtain ⟨u, HU⟩ : ∃ u, Hid (has ss t = u) := ⟨_, rfl⟩
                have HQM : Hid (q = decide (m < ss.length)) := HQ.out.symm.trans HS.out
                clear HS
                by_cases hms : m < ss.length
                all_goals
                  obtain rfl : q = _ := HQM.out.trans (by first | exact decide_eq_true hms | exact decide_eq_false hms)
                  clear HQM
                  cases hts : (t.toList == s.toList)
                  · have HT2 : Hid (has (kept s ss) t = u) := (HT.out hts).trans HU.out
                    clear HT
                    cases u
                    all_goals
                      go_wp2_with fail
                      refine (zzHolds_any _ _ _ (kept s ss) _ _ HM.out hml HR.out).mono ?_
                      rintro e wx ⟨he, rfl⟩
                      rw [HK.out] at he
                      subst he
                      go_wp2_with fail
                      refine (zzHolds_any _ _ _ ss _ _ rfl hl HL.out).mono ?_
                      rintro e wy ⟨he, rfl⟩
                      rw [HQ.out] at he
                      subst he
                      go_wp2_with fail
                      refine (zzHolds_any _ _ _ (kept s ss) _ _ HM.out hml HR.out).mono ?_
                      rintro e wz ⟨he, rfl⟩
                      rw [HT2.out] at he
                      subst he
                      go_wp2_with fail
                      refine (zzHolds_any _ _ _ ss _ _ rfl hl HL.out).mono ?_
                      rintro e wv ⟨he, rfl⟩
                      rw [HU.out] at he
                      subst he
                      go_wp2
                      go_ret
                      exact ⟨rfl, HF.out⟩
                  · clear HT HU
                    go_wp2_with fail
                    refine (zzHolds_any _ _ _ (kept s ss) _ _ HM.out hml HR.out).mono ?_
                    rintro e wx ⟨he, rfl⟩
                    rw [HK.out] at he
                    subst he
                    go_wp2_with fail
                    refine (zzHolds_any _ _ _ ss _ _ rfl hl HL.out).mono ?_
                    rintro e wy ⟨he, rfl⟩
                    rw [HQ.out] at he
                    subst he
                    go_wp2
                    go_ret
                    exact ⟨rfl, HF.out⟩
          · go_wp2
            go_ret
            exact ⟨rfl, Below.refl _ _⟩
      · go_enter Trym.func5, Trym.ntmps5
        go_wp2_with fail
        refine (bytes12_any _ _ ss _ _ _ hl hr).mono ?_
        rintro e w' ⟨⟨r, rfl⟩, rfl⟩
        cases r
        all_goals
          go_wp2
          go_ret
          exact ⟨rfl, Below.refl _ _⟩
    · go_enter Trym.func5, Trym.ntmps5
      go_wp2_with fail
      refine (bytes12_any _ _ ss _ _ _ hl hr).mono ?_
      rintro e w' ⟨⟨r, rfl⟩, rfl⟩
      cases r
      all_goals
        go_wp2
        go_ret
        exact ⟨rfl, Below.refl _ _⟩
  · go_enter Trym.func5, Trym.ntmps5
    go_wp2_with fail
    refine (bytes12_any _ _ ss _ _ _ hl hr).mono ?_
    rintro e w' ⟨⟨r, rfl⟩, rfl⟩
    cases r
    all_goals
      go_wp2
      go_ret
      exact ⟨rfl, Below.refl _ _⟩
end Go.Proofs.Qxb6001779aMods
