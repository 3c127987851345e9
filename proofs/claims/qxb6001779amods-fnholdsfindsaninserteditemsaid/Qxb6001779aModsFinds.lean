import Derived.Test.Qxb6001779aModsWalks
namespace Go.Proofs.Qxb6001779aMods
open Go.RowKit

set_option maxHeartbeats 1600000 in
theorem bytes6_any (a : Option Addr) (cap : Nat) (ss : List ByteArray) (a2 : Option Addr) (cap2 : Nat) (ts : List ByteArray) (s : ByteArray) (w : World)
    (hl : ss.length ≤ 9223372036854775807) (hl2 : ts.length ≤ 9223372036854775807) (hr : Row w a ss) (hr2 : Row w a2 ts) :
    Calls Trym.prog 6 #[.slice a ss.length cap, .slice a2 ts.length cap2, .string s] w fun e w' => RetBool e ∧ w' = w := by
  by_cases h0 : ss.length ≤ 1048576
  · go_enter Trym.func6, Trym.ntmps6
    go_wp2
    go_loop [7, 8] (fun n i => ∃ (k : Nat) (m : Int), k ≤ ss.length ∧ i = .int .i64 k ∧ n = .int .i64 m ∧ 0 ≤ m ∧ m ≤ 1048576) (fun _ i => ss.length - (intOf i).toNat)
    case atStart => exact ⟨0, _, Nat.zero_le _, rfl, rfl, by omega, by omega⟩
    case round =>
      obtain ⟨k, m, hk, rfl, rfl, hm0, hm1⟩ := hrel
      by_cases hlt : k < ss.length
      · obtain ⟨b, off, rfl, hb, hcell⟩ := hr k hlt
        by_cases hd : ss[k].size ≤ 1048576
        · by_cases hs : m + (ss[k].size : Int) ≤ 1048576
          · go_wp2
            go_round
            case rel => exact ⟨k + 1, _, by omega, by go_num, rfl, by omega, by omega⟩
            case measure => simp [intOf]; omega
          · go_wp2
            go_ret
            exact ⟨retBool _, rfl⟩
        · go_wp2
          go_ret
          exact ⟨retBool _, rfl⟩
      · clear hr
        by_cases g1 : ts.length ≤ 1048576
        · by_cases g2 : m + (ts.length : Int) ≤ 1048576
          · go_wp2
            go_loop [7, 9] (fun n i => ∃ (k : Nat) (m : Int), k ≤ ts.length ∧ i = .int .i64 k ∧ n = .int .i64 m ∧ 0 ≤ m ∧ m ≤ 1048576) (fun _ i => ts.length - (intOf i).toNat)
            case atStart => exact ⟨0, _, Nat.zero_le _, rfl, rfl, by omega, by omega⟩
            case round =>
              obtain ⟨k2, m2, hk2, rfl, rfl, hm20, hm21⟩ := hrel
              by_cases hlt2 : k2 < ts.length
              · obtain ⟨b2, off2, rfl, hb2, hcell2⟩ := hr2 k2 hlt2
                by_cases hd : ts[k2].size ≤ 1048576
                · by_cases hs : m2 + (ts[k2].size : Int) ≤ 1048576
                  · go_wp2
                    go_round
                    case rel => exact ⟨k2 + 1, _, by omega, by go_num, rfl, by omega, by omega⟩
                    case measure => simp [intOf]; omega
                  · go_wp2
                    go_ret
                    exact ⟨retBool _, rfl⟩
                · go_wp2
                  go_ret
                  exact ⟨retBool _, rfl⟩
              · by_cases g3 : s.size ≤ 1048576
                · by_cases g4 : m2 + (s.size : Int) ≤ 1048576
                  · go_wp2
                    go_ret
                    exact ⟨retBool _, rfl⟩
                  · go_wp2
                    go_ret
                    exact ⟨retBool _, rfl⟩
                · go_wp2
                  go_ret
                  exact ⟨retBool _, rfl⟩
          · go_wp2
            go_ret
            exact ⟨retBool _, rfl⟩
        · go_wp2
          go_ret
          exact ⟨retBool _, rfl⟩
  · go_enter Trym.func6, Trym.ntmps6
    go_wp2
    go_ret
    exact ⟨retBool _, rfl⟩

/-- Strings as cells. -/
def cellsS (ss : List ByteArray) : List Value := ss.map Value.string
theorem cellsS_filled (ss : List ByteArray) (n : Nat) : Filled ss n (cellsS ss) := by
  intro j hj _
  simp [cellsS, List.getElem?_eq_getElem hj]
theorem cellsS_snoc (ss : List ByteArray) (x : ByteArray) : cellsS ss ++ [.string x] = cellsS (ss ++ [x]) := by simp [cellsS]
theorem take_snoc (ss : List ByteArray) (k : Nat) (h : k < ss.length) : ss.take (k + 1) = ss.take k ++ [ss[k]] := List.take_succ_eq_append_getElem h

set_option maxHeartbeats 1600000 in
theorem concat_any (a : Option Addr) (la cap : Nat) (ss : List ByteArray) (a2 : Option Addr) (lb cap2 : Nat) (ts : List ByteArray) (w : World)
    (ha : ss.length = la) (hb : ts.length = lb) (h1 : ss.length ≤ 1000000) (h2 : ts.length ≤ 1000000) (hr : Row w a ss) (hr2 : Row w a2 ts) :
    Calls Trym.prog 9 #[.slice a la cap, .slice a2 lb cap2] w fun e w' => ∃ (a' : Option Addr) (cap' : Nat), e = .returned (.slice a' (ss ++ ts).length cap') ∧ Row w' a' (ss ++ ts) ∧ Below w.heap.size w w' := by
  subst ha hb
  obtain ⟨i0, hi, hz0, hz1, hz2⟩ := info_parts Trym.info9
  go_enter Trym.func9, Trym.ntmps9
  go_wp2_with (at_make; refine wpList_make_own _ rfl _ _ 22 rfl w.heap.size 9 i0 (.string ByteArray.empty) 1 Trym.underlying22 hi hz0 hz1 _ _ _ (ss.length + ts.length) rfl rfl ?b1 ?b2 ?b3 ?b4 ?_)
  case b1 => omega
  case b2 => rw [hz2]; omega
  case b3 => unfold maxLen; omega
  case b4 => exact Nat.le_refl _
  intro w2 hown hgrow
  have HO : Hid (Own w2 w.heap.size w.heap.size 0 (ss.length + ts.length) []) := hown
  have HB2 : Hid (Below w.heap.size w w2) := (Below.refl _ _).grown hgrow (Nat.le_refl _) (fun _ h => by cases h)
  clear hown hgrow hz0 hz2
  go_wp2
  go_loopw [5, 6] (fun v i wr => ∃ (k : Nat), k ≤ ss.length ∧ i = .int .i64 k ∧ v = .slice (some ⟨w.heap.size, 0, none⟩) k (ss.length + ts.length) ∧ Hid (Own wr w.heap.size w.heap.size k (ss.length + ts.length) (cellsS (ss.take k))) ∧ Hid (Below w.heap.size w wr)) (fun _ i _ => ss.length - (intOf i).toNat)
  case atStart => exact ⟨0, Nat.zero_le _, rfl, rfl, HO, HB2⟩
  case round =>
    obtain ⟨k, hk, rfl, rfl, HO, HB⟩ := hrel
    by_cases hlt : k < ss.length
    · obtain ⟨b, off, rfl, hbl, hc⟩ := hr k hlt
      have hcell : wr.cell? ⟨b, off + k, none⟩ = some (.string ss[k]) := (HB.out.cell (p := ⟨b, off + k, none⟩) hbl).trans hc
      clear hc hr2
      have HE : Hid (ss.take (k + 1) = ss.take k ++ [ss[k]]) := take_snoc ss k hlt
      have hbs := HB.out.size
      have hg := own_lt HO.out
      go_wp2_with (at_builtin; refine wpList_append_fits _ rfl _ _ 22 rfl w.heap.size 9 i0 1 Trym.underlying22 hi hz1 w.heap.size k (ss.length + ts.length) (cellsS (ss.take k)) rfl (World.ownsRow.alloc HO.out _) ⟨wr.heap.size, 0, none⟩ 1 1 [.string ss[k]] rfl rfl ?c1 ?c2 ?c3 ?_)
      case c1 =>
        intro j u hj
        match j, hj with
        | 0, hj => simp at hj; subst hj; simp [Addr.add]
      case c2 => intro u hu; simp at hu; subst hu; rfl
      case c3 => omega
      intro w3 hown3 hgrow3
      have HO3 : Hid (Own w3 w.heap.size w.heap.size (k + 1) (ss.length + ts.length) (cellsS (ss.take (k + 1)))) := by
        rw [HE.out, ← cellsS_snoc]; exact hown3
      have HB3 : Hid (Below w.heap.size w w3) := (HB.out.alloc HB.out.size _).grown hgrow3 (by simp; omega) (fun _ h => by cases h; exact Nat.le_refl _)
      clear hown3 hgrow3 HO HB
      go_wp2
      go_roundw
      case rel => exact ⟨k + 1, by omega, by go_num, rfl, HO3, HB3⟩
      case measure => simp [intOf]; omega
    · obtain rfl : k = ss.length := by omega
      rw [List.take_length] at HO
      have HO1 : Hid (Own wr w.heap.size w.heap.size ss.length (ss.length + ts.length) (cellsS (ss ++ ts.take 0))) := by simpa using HO
      have HBr := HB
      clear HO HB hr hlt HB2
      go_wp2
      go_loopw [5, 7] (fun v i wr => ∃ (k : Nat), k ≤ ts.length ∧ i = .int .i64 k ∧ v = .slice (some ⟨w.heap.size, 0, none⟩) (ss.length + k) (ss.length + ts.length) ∧ Hid (Own wr w.heap.size w.heap.size (ss.length + k) (ss.length + ts.length) (cellsS (ss ++ ts.take k))) ∧ Hid (Below w.heap.size w wr)) (fun _ i _ => ts.length - (intOf i).toNat)
      case atStart => exact ⟨0, Nat.zero_le _, rfl, rfl, HO1, HBr⟩
      case round =>
        clear HO1 HBr
        obtain ⟨k, hk, rfl, rfl, HO, HB⟩ := hrel
        by_cases hlt : k < ts.length
        · obtain ⟨b, off, rfl, hbl, hc⟩ := hr2 k hlt
          have hcell : wr.cell? ⟨b, off + k, none⟩ = some (.string ts[k]) := (HB.out.cell (p := ⟨b, off + k, none⟩) hbl).trans hc
          clear hc hr2
          have HE : Hid (ts.take (k + 1) = ts.take k ++ [ts[k]]) := take_snoc ts k hlt
          have hbs := HB.out.size
          have hg := own_lt HO.out
          go_wp2_with (at_builtin; refine wpList_append_fits _ rfl _ _ 22 rfl w.heap.size 9 i0 1 Trym.underlying22 hi hz1 w.heap.size (ss.length + k) (ss.length + ts.length) (cellsS (ss ++ ts.take k)) rfl (World.ownsRow.alloc HO.out _) ⟨wr.heap.size, 0, none⟩ 1 1 [.string ts[k]] rfl rfl ?d1 ?d2 ?d3 ?_)
          case d1 =>
            intro j u hj
            match j, hj with
            | 0, hj => simp at hj; subst hj; simp [Addr.add]
          case d2 => intro u hu; simp at hu; subst hu; rfl
          case d3 => omega
          intro w3 hown3 hgrow3
          have HO3 : Hid (Own w3 w.heap.size w.heap.size (ss.length + (k + 1)) (ss.length + ts.length) (cellsS (ss ++ ts.take (k + 1)))) := by
            rw [HE.out, ← List.append_assoc, ← cellsS_snoc]; exact hown3
          have HB3 : Hid (Below w.heap.size w w3) := (HB.out.alloc HB.out.size _).grown hgrow3 (by simp; omega) (fun _ h => by cases h; exact Nat.le_refl _)
          clear hown3 hgrow3 HO HB
          go_wp2
          go_roundw
          case rel => exact ⟨k + 1, by omega, by go_num, rfl, HO3, HB3⟩
          case measure => simp [intOf]; omega
        · obtain rfl : k = ts.length := by omega
          rw [List.take_length] at HO
          have HR : Hid (Row wr (some ⟨w.heap.size, 0, none⟩) (ss ++ ts)) := own_row HO.out (by simp) (cellsS_filled _ _)
          clear HO hr2
          go_wp2
          go_ret
          exact ⟨some ⟨w.heap.size, 0, none⟩, ss.length + ts.length, by simp, HR.out, HB.out⟩

theorem has_mid (ss ts : List ByteArray) (s : ByteArray) : has ((ss ++ [s]) ++ ts) s = true := by
  unfold has
  simp

set_option maxHeartbeats 1600000 in
theorem findsWalk (a : Option Addr) (cap : Nat) (ss : List ByteArray) (a2 : Option Addr) (cap2 : Nat) (ts : List ByteArray) (s : ByteArray) (w : World)
    (hl : ss.length ≤ 9223372036854775807) (hl2 : ts.length ≤ 9223372036854775807) (hs : s.size ≤ 9223372036854775807) (hr : Row w a ss) (hr2 : Row w a2 ts) :
    Calls Trym.prog 3 #[.slice a ss.length cap, .slice a2 ts.length cap2, .string s] w fun e w' => e = .returned (.bool true) ∧ Below w.heap.size w w' := by
  by_cases h1 : ss.length ≤ 65536
  · by_cases h2 : ts.length ≤ 65536
    · by_cases h3 : s.size ≤ 1048576
      · go_enter Trym.func3, Trym.ntmps3
        go_wp2_with fail
        refine (bytes6_any _ _ ss _ _ ts _ _ hl hl2 hr hr2).mono ?_
        rintro e w' ⟨⟨r, rfl⟩, rfl⟩
        cases r with
        | false =>
          go_wp2
          go_ret
          exact ⟨rfl, Below.refl _ _⟩
        | true =>
          go_wp2_with fail
          refine (weigh_any _ _ ss _ hl hr).mono ?_
          rintro e w' ⟨⟨r, rfl, hr0, hr1⟩, rfl⟩
          go_wp2_with fail
          refine (weigh_any _ _ ts _ hl2 hr2).mono ?_
          rintro e w' ⟨⟨r', rfl, hr0', hr1'⟩, rfl⟩
          by_cases h4 : (s.size : Int) + r + r' ≤ 1048576
          · go_wp2_with fail
            refine (clone_any _ _ ss _ h1 hr).mono ?_
            rintro e w1 ⟨a1, cap1, rfl, hrow, hb1⟩
            have HB1 : Hid (Below w'.heap.size w' w1) := hb1
            have hr2' := row_below hr2 hb1
            clear hb1 hr hr2
            go_wp2_with fail
            refine (clone_any _ _ ts _ h2 hr2').mono ?_
            rintro e w2 ⟨b1, capb, rfl, hrowb, hb2⟩
            have hrow2 := row_below hrow hb2
            have HB2 : Hid (Below w'.heap.size w' w2) := HB1.out.trans (hb2.mono HB1.out.size)
            clear hb2 hrow hr2' HB1
            obtain ⟨i0, hi, hz0, hz1, hz2⟩ := info_parts Trym.info9
            go_wp2_with (at_make; refine wpList_make_full _ rfl _ _ 22 rfl w2.heap.size 9 i0 (.string ByteArray.empty) 1 Trym.underlying22 hi hz0 hz1 _ _ _ _ 1 rfl rfl rfl rfl ?b2 ?b3 ?b4 ?_)
            case b2 => rw [hz2]; omega
            case b3 => unfold maxLen; omega
            case b4 => exact Nat.le_refl _
            intro w3 hown hgrow
            have hbel : Below w2.heap.size w2 w3 := (Below.refl _ _).grown hgrow (Nat.le_refl _) (fun _ h => by cases h)
            have hown' : ∃ xs, Hid (Own w3 w2.heap.size w2.heap.size 1 1 xs) := ⟨_, hown⟩
            obtain ⟨xs, HO⟩ := hown'
            clear hown hgrow hi hz0 hz1 hz2
            have hx := own_len HO.out
            have hcell : ∃ v, w3.cell? ⟨w2.heap.size, 0, none⟩ = some v := ⟨xs[0], by rw [HO.out.cellAt 0 (by omega), List.getElem?_eq_getElem (by omega)]⟩
            obtain ⟨v, hcell⟩ := hcell
            have hfr : w3.frozen? ⟨w2.heap.size, 0, none⟩ = false := HO.out.frozenAt 0
            have HO4 : Hid (Own (w3.setCell ⟨w2.heap.size, 0, none⟩ (.string s)) w2.heap.size w2.heap.size 1 1 (xs.set 0 (.string s))) := (HO.out.stored 0 _).1
            have hb4 : Below w2.heap.size w2 (w3.setCell ⟨w2.heap.size, 0, none⟩ (.string s)) := hbel.setCell (Nat.le_refl _) _
            have hrm : Row (w3.setCell ⟨w2.heap.size, 0, none⟩ (.string s)) (some ⟨w2.heap.size, 0, none⟩) [s] := own_row HO4.out rfl (fun j hj hj1 => by
              obtain rfl : j = 0 := by omega
              rw [List.getElem?_set_self (by omega)]; rfl)
            have hra := row_below hrow2 hb4
            have hrb := row_below hrowb hb4
            have HB4 : Hid (Below w'.heap.size w' (w3.setCell ⟨w2.heap.size, 0, none⟩ (.string s))) := HB2.out.trans (hb4.mono HB2.out.size)
            have HRM : Hid (Row (w3.setCell ⟨w2.heap.size, 0, none⟩ (.string s)) (some ⟨w2.heap.size, 0, none⟩) [s]) := hrm
            have HRA : Hid (Row (w3.setCell ⟨w2.heap.size, 0, none⟩ (.string s)) a1 ss) := hra
            have HRB : Hid (Row (w3.setCell ⟨w2.heap.size, 0, none⟩ (.string s)) b1 ts) := hrb
            clear hrm hra hrb hb4 HO4 HO hx hbel hrow2 hrowb HB2
            go_wp2_with fail
            refine (concat_any _ _ _ ss _ _ _ [s] _ rfl rfl (by omega) (by simp) HRA.out HRM.out).mono ?_
            rintro e w5 ⟨c1, capc, rfl, hrc, hb5⟩
            have HRB5 : Hid (Row w5 b1 ts) := row_below HRB.out hb5
            have HB5 : Hid (Below w'.heap.size w' w5) := HB4.out.trans (hb5.mono HB4.out.size)
            have HRC : Hid (Row w5 c1 (ss ++ [s])) := hrc
            clear hb5 hrc HRB HRA HRM HB4 hcell hfr
            go_wp2_with fail
            refine (concat_any _ _ _ (ss ++ [s]) _ _ _ ts _ (by simp) rfl (by simp; omega) (by omega) HRC.out HRB5.out).mono ?_
            rintro e w6 ⟨c2, capd, rfl, hrd, hb6⟩
            have HB6 : Hid (Below w'.heap.size w' w6) := HB5.out.trans (hb6.mono HB5.out.size)
            have HRD : Hid (Row w6 c2 (ss ++ [s] ++ ts)) := hrd
            clear hb6 hrd HRB5 HRC HB5
            go_wp2_with fail
            refine (zzHolds_any _ _ _ (ss ++ [s] ++ ts) _ _ (by simp) (by simp; omega) HRD.out).mono ?_
            rintro e w7 ⟨he, rfl⟩
            rw [has_mid] at he
            subst he
            go_wp2
            go_ret
            exact ⟨rfl, HB6.out⟩
          · go_wp2
            go_ret
            exact ⟨rfl, Below.refl _ _⟩
      · go_enter Trym.func3, Trym.ntmps3
        go_wp2_with fail
        refine (bytes6_any _ _ ss _ _ ts _ _ hl hl2 hr hr2).mono ?_
        rintro e w' ⟨⟨r, rfl⟩, rfl⟩
        cases r
        all_goals
          go_wp2
          go_ret
          exact ⟨rfl, Below.refl _ _⟩
    · go_enter Trym.func3, Trym.ntmps3
      go_wp2_with fail
      refine (bytes6_any _ _ ss _ _ ts _ _ hl hl2 hr hr2).mono ?_
      rintro e w' ⟨⟨r, rfl⟩, rfl⟩
      cases r
      all_goals
        go_wp2
        go_ret
        exact ⟨rfl, Below.refl _ _⟩
  · go_enter Trym.func3, Trym.ntmps3
    go_wp2_with fail
    refine (bytes6_any _ _ ss _ _ ts _ _ hl hl2 hr hr2).mono ?_
    rintro e w' ⟨⟨r, rfl⟩, rfl⟩
    cases r
    all_goals
      go_wp2
      go_ret
      exact ⟨rfl, Below.refl _ _⟩
end Go.Proofs.Qxb6001779aMods
