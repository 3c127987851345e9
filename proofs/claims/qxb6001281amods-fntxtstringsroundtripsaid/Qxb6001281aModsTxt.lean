import Derived.Test.Qxb6001281aModsEncode
import Derived.Laws.IdiomStrings
namespace Go.Proofs.Qxb6001281aMods
open Go.RowKit

def cellsS (ss : List ByteArray) : List Value := ss.map Value.string
/-- The value v owns the strings l. -/
def OwnV (w : World) (B : Nat) (v : Value) (l : List ByteArray) : Prop := w.ownsRow B 9 1 v l.length (cellsS l)
def lenOf : Value → Nat | .slice _ n _ => n | _ => 0

theorem ownV_ge {w : World} {B : Nat} {v : Value} {l : List ByteArray} (h : OwnV w B v l) : ∀ k, v.ownBlock = some k → B ≤ k := by
  intro k hk
  rcases h.2 with ⟨h', _⟩ | ⟨g', cap', cur, h', hb, _⟩
  · subst h'; cases hk
  · subst h'
    simp [Value.ownBlock] at hk
    omega
theorem ownV_row {w : World} {B : Nat} {v : Value} {l : List ByteArray} (h : OwnV w B v l) : ∃ a cap, v = .slice a l.length cap ∧ Row w a l := by
  rcases h.2 with ⟨h', hn⟩ | ⟨g, cap, cur, h', hb, hg, hc1, hc2, hc3, ht⟩
  · have : l = [] := List.eq_nil_of_length_eq_zero hn
    subst this
    exact ⟨none, 0, h', fun i hi => absurd hi (by simp)⟩
  · subst h'
    refine ⟨_, _, rfl, ?_⟩
    intro i hi
    refine ⟨g, 0, rfl, (Array.getElem?_eq_some_iff.1 hg).1, ?_⟩
    have := World.ownsRow.cellAt (w := w) (base := B) (e := 9) (size := 1) (g := g) (n := l.length) (cap := cap) (xs := cellsS l) h i (by omega)
    rw [Nat.zero_add, this]
    simp [cellsS, List.getElem?_eq_getElem hi]
theorem cellsS_snoc (l : List ByteArray) (x : ByteArray) : cellsS (l ++ [x]) = cellsS l ++ [.string x] := by simp [cellsS]
theorem ownV_snoc {w : World} {B : Nat} {v : Value} {ss : List ByteArray} {k : Nat} (hk : k < ss.length) (h : w.ownsRow B 9 1 v (k + 1) (cellsS (ss.take k) ++ [.string ss[k]])) : OwnV w B v (ss.take (k + 1)) := by
  have e : ss.take (k + 1) = ss.take k ++ [ss[k]] := List.take_succ_eq_append_getElem hk
  unfold OwnV
  rw [e]
  rw [cellsS_snoc, List.length_append, List.length_take, Nat.min_eq_left (Nat.le_of_lt hk)]
  exact h

/-- What is known of the data. -/
def Bytes (w : World) (b : Nat) (l : List UInt8) : Prop := ∀ j (h : j < l.length), w.cell? ⟨b, j, none⟩ = some (.int .u8 ((l[j]).toNat : Int))
theorem bytes_below {w w' : World} {b : Nat} {l : List UInt8} (hb : b < w.heap.size) (h : Bytes w b l) (hw : Below w.heap.size w w') : Bytes w' b l :=
  fun j hj => (hw.cell (p := ⟨b, j, none⟩) hb).trans (h j hj)
theorem at_one {ss : List ByteArray} {k : Nat} (hk : k < ss.length) (i : Nat) (hi : i < (Pl.one ss[k]).length) :
    ∃ h : (Pl.enc (ss.take k)).length + i < (Pl.enc ss).length, (Pl.enc ss)[(Pl.enc (ss.take k)).length + i] = (Pl.one ss[k])[i] := by
  have hlen := Pl.len_split ss k hk
  have h1 := Pl.one_len ss[k]
  refine ⟨by omega, ?_⟩
  have e := Pl.enc_split ss k hk
  simp only [e]
  rw [List.getElem_append_right (by omega)]
  simp only [Nat.add_sub_cancel_left]
  rw [List.getElem_append_left hi]
theorem head_cell {w : World} {b : Nat} {ss : List ByteArray} {k : Nat} (h : Bytes w b (Pl.enc ss)) (hk : k < ss.length) (hs : ss[k].size ≤ 255) :
    w.cell? ⟨b, (Pl.enc (ss.take k)).length, none⟩ = some (.int .u8 (ss[k].size : Int)) := by
  obtain ⟨hlt, e⟩ := at_one hk 0 (by rw [Pl.one_len]; omega)
  have := h _ hlt
  rw [e] at this
  have e2 : (Pl.one ss[k])[0]'(by rw [Pl.one_len]; omega) = UInt8.ofNat ss[k].size := rfl
  rw [e2, byte_size _ hs] at this
  exact this
theorem tail_conv {w : World} {b : Nat} {ss : List ByteArray} {k : Nat} (h : Bytes w b (Pl.enc ss)) (hk : k < ss.length) (c : Nat) :
    (convert 26 9 (.slice (some ⟨b, (Pl.enc (ss.take k)).length + 1, none⟩) ss[k].size c)).run Trym.prog w = .ok (.string ss[k]) w := by
  have := run_convert_bytes_back (P := Trym.prog) w 26 9 5 ⟨b, (Pl.enc (ss.take k)).length + 1, none⟩ c ss[k].data.toList Trym.underlying26 Trym.underlying5 Trym.underlying9 (by
    intro j hj
    obtain ⟨hlt, e⟩ := at_one hk (j + 1) (by rw [Pl.one_len]; rw [Pl.size_list] at hj; omega)
    have := h _ hlt
    rw [e] at this
    have e2 : (⟨b, (Pl.enc (ss.take k)).length + 1, none⟩ : Addr).add j = ⟨b, (Pl.enc (ss.take k)).length + 1 + j, none⟩ := by simp [Addr.add]
    rw [e2, show (Pl.enc (ss.take k)).length + 1 + j = (Pl.enc (ss.take k)).length + (j + 1) by omega, this]
    rfl)
  rw [Pl.size_list] at this
  exact this
theorem empty_conv {w : World} (b o : Nat) (s : ByteArray) (hs : s.size = 0) :
    (convert 26 9 (.slice (some ⟨b, o, none⟩) 0 0)).run Trym.prog w = .ok (.string s) w := by
  have := run_convert_bytes_back (P := Trym.prog) w 26 9 5 ⟨b, o, none⟩ 0 [] Trym.underlying26 Trym.underlying5 Trym.underlying9 (by
    intro j hj; exact absurd hj (by simp))
  have e : s = ⟨#[]⟩ := by
    apply ByteArray.ext
    have : s.data.size = 0 := hs
    exact Array.eq_empty_of_size_eq_zero this
  rw [e]
  exact this

set_option maxHeartbeats 1600000 in
theorem txt_any (b : Nat) (ss : List ByteArray) (w : World) (hb : b < w.heap.size) (hl : ss.length ≤ 65536) (hs : Small 255 ss ss.length) (hc : Bytes w b (Pl.enc ss)) :
    Calls Trym.prog 16 #[.slice (some ⟨b, 0, none⟩) (Pl.enc ss).length (Pl.enc ss).length] w fun e w' => ∃ a cap, e = .returned (.slice a ss.length cap) ∧ Row w' a ss ∧ Below w.heap.size w w' := by
  have hN : (Pl.enc ss).length ≤ 16777216 := by have := Pl.len_bound ss (fun i h => hs i h h); omega
  obtain ⟨i0, hi, hz0, hz1, hz2⟩ := info_parts Trym.info9
  go_enter Trym.func16, Trym.ntmps16
  go_wp2
  go_loopw [0, 3] (fun d v wr => ∃ (k o M : Nat) (ad : Addr), k ≤ ss.length ∧ M ≤ 16777216 ∧ d = .slice (some ad) M M ∧ Hid (k < ss.length → ad = ⟨b, o, none⟩) ∧ Hid (o = (Pl.enc (ss.take k)).length ∧ M = (Pl.enc (ss.drop k)).length) ∧ Hid (OwnV wr w.heap.size v (ss.take k)) ∧ Hid (Below w.heap.size w wr)) (fun d _ _ => lenOf d)
  case atStart => exact ⟨0, 0, _, _, Nat.zero_le _, hN, rfl, fun _ => rfl, ⟨rfl, rfl⟩, World.ownsRow_nil _ _ _ _, Below.refl _ _⟩
  case round =>
    obtain ⟨k, o, M, ad, hk, hM, rfl, HA, HE, HO, HB⟩ := hrel
    by_cases hlt : k < ss.length
    · obtain rfl : ad = ⟨b, o, none⟩ := HA.out hlt
      have hd := hs k hlt hlt
      have hML : M = 1 + ss[k].size + (Pl.enc (ss.drop (k + 1))).length := by
        rw [HE.out.2, Pl.enc_drop ss k hlt, List.length_append, Pl.one_len]
      have HE2 : Hid (o + (1 + ss[k].size) = (Pl.enc (ss.take (k + 1))).length ∧ M - (1 + ss[k].size) = (Pl.enc (ss.drop (k + 1))).length) := by
        refine ⟨?_, by omega⟩
        rw [Pl.len_snoc ss k hlt, HE.out.1]
      have HC : Hid (Bytes wr b (Pl.enc ss)) := bytes_below hb hc HB.out
      have HH := head_cell HC.out hlt hd
      rw [← HE.out.1] at HH
      by_cases hlast : M = 1 + ss[k].size
      · have HZ : Hid (¬ k + 1 < ss.length) := by
          have h0 : (Pl.enc (ss.drop (k + 1))).length = 0 := by omega
          have h1 := congrArg List.length (Pl.enc_pos _ h0)
          rw [List.length_drop] at h1
          show ¬ k + 1 < ss.length
          simp at h1; omega
        by_cases hM1 : M = 1
        · subst hM1
          have hz : ss[k].size = 0 := by omega
          have HT := empty_conv (w := wr) b o ss[k] hz
          rw [hz] at HH
          rw [hz] at HE2
          clear hML hlast hd HE hz
          go_wp2_with (at_builtin; refine wpList_append_own _ rfl _ _ 22 rfl w.heap.size 9 i0 (.string ByteArray.empty) 1 16 Trym.underlying22 hi hz0 hz1 hz2 rfl (by decide) _ _ _ rfl (World.ownsRow.alloc HO.out _) ⟨wr.heap.size, 0, none⟩ 1 1 [.string ss[k]] rfl rfl ?c1a ?c2a ?c3a ?c4a ?c5a ?_)
          case c2a => first | rfl | (intro u hu; simp at hu; subst hu; rfl)
          case c3a => have := List.length_take_le k ss; unfold maxLen; omega
          case c4a => have := List.length_take_le k ss; omega
          case c5a => have := HB.out.size; simp; omega
          intro v' w1 hown' hgrow' _
          have HO2 : Hid (OwnV w1 w.heap.size v' (ss.take (k + 1))) := ownV_snoc hlt hown'
          have HB2 : Hid (Below w.heap.size w w1) := (HB.out.alloc HB.out.size _).grown hgrow' (by have := HB.out.size; simp; omega) (ownV_ge HO.out)
          clear hown' hgrow' HO HB HT HH hi hz0 hz1 hz2
          go_wp2
          go_roundw
          case rel => exact ⟨k + 1, o + (1 + 0), 0, ⟨b, o, none⟩, by omega, by omega, rfl, fun h => absurd h HZ.out, HE2, HO2, HB2⟩
          case measure => simp [lenOf]
        · have HT := tail_conv HC.out hlt (M - 1)
          rw [← HE.out.1] at HT
          have hM2 : 2 ≤ M := by omega
          have hle1 : M ≤ 1 + ss[k].size := by omega
          have hle2 : 1 + ss[k].size ≤ M := by omega
          clear hML hM1 HE hlast
          go_wp2_with (at_builtin; refine wpList_append_own _ rfl _ _ 22 rfl w.heap.size 9 i0 (.string ByteArray.empty) 1 16 Trym.underlying22 hi hz0 hz1 hz2 rfl (by decide) _ _ _ rfl (World.ownsRow.alloc HO.out _) ⟨wr.heap.size, 0, none⟩ 1 1 [.string ss[k]] rfl rfl ?c1b ?c2b ?c3b ?c4b ?c5b ?_)
          case c2b => first | rfl | (intro u hu; simp at hu; subst hu; rfl)
          case c3b => have := List.length_take_le k ss; unfold maxLen; omega
          case c4b => have := List.length_take_le k ss; omega
          case c5b => have := HB.out.size; simp; omega
          intro v' w1 hown' hgrow' _
          have HO2 : Hid (OwnV w1 w.heap.size v' (ss.take (k + 1))) := ownV_snoc hlt hown'
          have HB2 : Hid (Below w.heap.size w w1) := (HB.out.alloc HB.out.size _).grown hgrow' (by have := HB.out.size; simp; omega) (ownV_ge HO.out)
          clear hown' hgrow' HO HB HT HH hi hz0 hz1 hz2
          go_wp2
          go_roundw
          case rel => exact ⟨k + 1, o + (1 + ss[k].size), M - (1 + ss[k].size), ⟨b, o, none⟩, by omega, by omega, rfl, fun h => absurd h HZ.out, HE2, HO2, HB2⟩
          case measure => simp [lenOf]; omega
      · have hlt2 : 1 + ss[k].size < M := by omega
        have HT := tail_conv HC.out hlt (M - 1)
        rw [← HE.out.1] at HT
        clear hML hlast HE
        go_wp2_with (at_builtin; refine wpList_append_own _ rfl _ _ 22 rfl w.heap.size 9 i0 (.string ByteArray.empty) 1 16 Trym.underlying22 hi hz0 hz1 hz2 rfl (by decide) _ _ _ rfl (World.ownsRow.alloc HO.out _) ⟨wr.heap.size, 0, none⟩ 1 1 [.string ss[k]] rfl rfl ?c1c ?c2c ?c3c ?c4c ?c5c ?_)
        case c2c => first | rfl | (intro u hu; simp at hu; subst hu; rfl)
        case c3c => have := List.length_take_le k ss; unfold maxLen; omega
        case c4c => have := List.length_take_le k ss; omega
        case c5c => have := HB.out.size; simp; omega
        intro v' w1 hown' hgrow' _
        have HO2 : Hid (OwnV w1 w.heap.size v' (ss.take (k + 1))) := ownV_snoc hlt hown'
        have HB2 : Hid (Below w.heap.size w w1) := (HB.out.alloc HB.out.size _).grown hgrow' (by have := HB.out.size; simp; omega) (ownV_ge HO.out)
        clear hown' hgrow' HO HB HT HH hi hz0 hz1 hz2
        go_wp2
        go_roundw
        case rel => exact ⟨k + 1, o + (1 + ss[k].size), M - (1 + ss[k].size), _, by omega, by omega, rfl, fun _ => rfl, HE2, HO2, HB2⟩
        case measure => simp [lenOf]; omega
    · have hke : ss.take k = ss := List.take_of_length_le (by omega)
      have hM0 : M = 0 := by
        rw [HE.out.2, List.drop_eq_nil_of_le (by omega)]; rfl
      rw [hke] at HO
      obtain ⟨a, cap, rfl, hrow⟩ := ownV_row HO.out
      have HR : Hid (Row wr a ss) := hrow
      clear hke hrow HO HE HA hi hz0 hz1 hz2
      subst hM0
      go_wp2
      go_ret
      exact ⟨a, cap, rfl, HR.out, HB.out⟩

set_option maxHeartbeats 400000 in
theorem zzTxt_any (b : Nat) (ss : List ByteArray) (w : World) (hb : b < w.heap.size) (hl : ss.length ≤ 65536) (hs : Small 255 ss ss.length) (hc : Bytes w b (Pl.enc ss)) :
    Calls Trym.prog 11 #[.slice (some ⟨b, 0, none⟩) (Pl.enc ss).length (Pl.enc ss).length] w fun e w' => ∃ a cap, e = .returned (.slice a ss.length cap) ∧ Row w' a ss ∧ Below w.heap.size w w' := by
  go_enter Trym.func11, Trym.ntmps11
  go_wp2_with fail
  refine (txt_any b ss _ hb hl hs hc).mono ?_
  rintro e w1 ⟨a, cap, rfl, hrow, hbel⟩
  go_wp2
  go_ret
  exact ⟨a, cap, rfl, hrow, hbel⟩

set_option maxHeartbeats 1600000 in
theorem roundTripWalk (a : Option Addr) (cap : Nat) (ss : List ByteArray) (w : World) (hl : ss.length ≤ 9223372036854775807) (hr : Row w a ss) :
    Calls Trym.prog 3 #[.slice a ss.length cap] w fun e w' => e = .returned (.bool true) ∧ Below w.heap.size w w' := by
  by_cases h1 : ss.length ≤ 65536
  · go_enter Trym.func3, Trym.ntmps3
    go_wp2_with fail
    refine (bytes6_any _ _ ss _ hl hr).mono ?_
    rintro e w' ⟨⟨r, rfl, hsm⟩, rfl⟩
    cases r with
    | false =>
      go_wp2
      go_ret
      exact ⟨rfl, Below.refl _ _⟩
    | true =>
      have HSM : Hid (Small 1048576 ss ss.length) := hsm rfl
      clear hsm
      go_wp2_with fail
      refine (size_any _ _ ss _ h1 hr HSM.out).mono ?_
      rintro e w' ⟨⟨r, rfl, hr0, hr1⟩, rfl⟩
      clear HSM
      by_cases h2 : r ≤ 1048576
      · go_wp2_with fail
        go_loop [3] (fun i => ∃ (k : Nat), k ≤ ss.length ∧ i = .int .i64 k ∧ Hid (Small 255 ss k)) (fun i => ss.length - (intOf i).toNat)
        case atStart => exact ⟨0, Nat.zero_le _, rfl, small_zero _ _⟩
        case round =>
          obtain ⟨k, hk, rfl, HS⟩ := hrel
          by_cases hlt : k < ss.length
          · obtain ⟨b, off, rfl, hb, hcell⟩ := hr k hlt
            by_cases hd : ss[k].size ≤ 255
            · have HS2 : Hid (Small 255 ss (k + 1)) := small_step HS.out hlt hd
              go_wp2
              go_round
              case rel => exact ⟨k + 1, by omega, by go_num, HS2⟩
              case measure => simp [intOf]; omega
            · go_wp2
              go_ret
              exact ⟨rfl, Below.refl _ _⟩
          · have HS2 : Hid (Small 255 ss ss.length) := by
              have := HS.out
              rw [show k = ss.length by omega] at this; exact this
            clear HS
            go_wp2_with fail
            refine (clone_any _ _ ss _ h1 hr).mono ?_
            rintro e w1 ⟨a1, cap1, rfl, hrow, hb1⟩
            have HB1 : Hid (Below w'.heap.size w' w1) := hb1
            have HR1 : Hid (Row w1 a1 ss) := hrow
            clear hb1 hrow hr
            go_wp2_with fail
            refine (encode_any _ _ _ ss _ rfl h1 HS2.out HR1.out).mono ?_
            rintro e w2 ⟨b, rfl, hblt, hcb, hb2⟩
            have HB2 : Hid (Below w'.heap.size w' w2) := HB1.out.trans (hb2.mono HB1.out.size)
            have HR2 : Hid (Row w2 a1 ss) := row_below HR1.out hb2
            have HC2 : Hid (Bytes w2 b (Pl.enc ss)) := hcb
            clear hcb hb2 HB1 HR1
            go_wp2_with fail
            refine (zzTxt_any b ss _ hblt h1 HS2.out HC2.out).mono ?_
            rintro e w3 ⟨a3, cap3, rfl, hrow3, hb3⟩
            have HB3 : Hid (Below w'.heap.size w' w3) := HB2.out.trans (hb3.mono HB2.out.size)
            have HR3 : Hid (Row w3 a1 ss) := row_below HR2.out hb3
            have HQ3 : Hid (Row w3 a3 ss) := hrow3
            clear hrow3 hb3 HB2 HR2 HC2
            go_wp2_with fail
            refine (equal_any _ _ _ _ _ _ ss _ rfl rfl h1 HQ3.out HR3.out).mono ?_
            rintro e w4 ⟨rfl, hb4⟩
            have HB4 : Hid (Below w'.heap.size w' w4) := HB3.out.trans (hb4.mono HB3.out.size)
            clear hb4
            go_wp2
            go_ret
            exact ⟨rfl, HB4.out⟩
      · go_wp2
        go_ret
        exact ⟨rfl, Below.refl _ _⟩
  · go_enter Trym.func3, Trym.ntmps3
    go_wp2_with fail
    refine (bytes6_any _ _ ss _ hl hr).mono ?_
    rintro e w' ⟨⟨r, rfl, hsm⟩, rfl⟩
    clear hsm
    cases r
    all_goals
      go_wp2
      go_ret
      exact ⟨rfl, Below.refl _ _⟩
end Go.Proofs.Qxb6001281aMods
