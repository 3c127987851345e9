import Derived.Test.Qxb6001779aModsRows
import Derived.WalkKit
import Derived.WalkSpells
import Derived.WalkLawsBesides
namespace Go.Proofs.Qxb6001779aMods
open Go.RowKit

/-- What is known of a []string that is read: its strings lie where its address says. -/
def Row (w : World) (a : Option Addr) (ss : List ByteArray) : Prop :=
  ∀ i (h : i < ss.length), ∃ b off, a = some ⟨b, off, none⟩ ∧ b < w.heap.size ∧ w.cell? ⟨b, off + i, none⟩ = some (.string ss[i])

/-- Does the list hold s? -/
def has (ss : List ByteArray) (s : ByteArray) : Bool := ss.any fun x => x.toList == s.toList

theorem has_yes {ss : List ByteArray} {s : ByteArray} {k : Nat} (h : k < ss.length) (e : (ss[k].toList == s.toList) = true) : has ss s = true := by
  unfold has; rw [List.any_eq_true]; exact ⟨ss[k], List.getElem_mem h, e⟩
theorem has_step {ss : List ByteArray} {s : ByteArray} {k : Nat} (h : k < ss.length) (e : (ss[k].toList == s.toList) = false) (h0 : has (ss.take k) s = false) : has (ss.take (k + 1)) s = false := by
  unfold has at *
  rw [List.take_succ_eq_append_getElem h, List.any_append, h0]
  simp [e]

set_option maxHeartbeats 400000 in
theorem holds_any (a : Option Addr) (cap : Nat) (ss : List ByteArray) (s : ByteArray) (w : World) (hl : ss.length ≤ 9223372036854775807) (hr : Row w a ss) :
    Calls Trym.prog 13 #[.slice a ss.length cap, .string s] w fun e w' => e = .returned (.bool (has ss s)) ∧ w' = w := by
  go_enter Trym.func13, Trym.ntmps13
  go_wp2
  go_loop [9] (fun i => ∃ k : Nat, k ≤ ss.length ∧ i = .int .i64 k ∧ Hid (has (ss.take k) s = false)) (fun i => ss.length - (intOf i).toNat)
  case atStart => exact ⟨0, Nat.zero_le _, rfl, rfl⟩
  case round =>
    obtain ⟨k, hk, rfl, H⟩ := hrel
    by_cases hlt : k < ss.length
    · obtain ⟨b, off, rfl, hb, hcell⟩ := hr k hlt
      cases hd : (ss[k].toList == s.toList) with
      | true =>
        have H2 : Hid (has ss s = true) := has_yes hlt hd
        go_wp2
        go_ret
        exact ⟨by rw [H2.out]; rfl, rfl⟩
      | false =>
        have H2 : Hid (has (ss.take (k + 1)) s = false) := has_step hlt hd H.out
        go_wp2
        go_round
        case rel => exact ⟨k + 1, by omega, by go_num, H2⟩
        case measure => simp [intOf]; omega
    · have H2 : Hid (has ss s = false) := by
        have := H.out
        rw [List.take_of_length_le (by omega)] at this; exact this
      go_wp2
      go_ret
      exact ⟨by rw [H2.out]; rfl, rfl⟩

set_option maxHeartbeats 400000 in
theorem zzHolds_any (a : Option Addr) (n cap : Nat) (ss : List ByteArray) (s : ByteArray) (w : World) (hn : ss.length = n) (hl : ss.length ≤ 9223372036854775807) (hr : Row w a ss) :
    Calls Trym.prog 10 #[.slice a n cap, .string s] w fun e w' => e = .returned (.bool (has ss s)) ∧ w' = w := by
  subst hn
  go_enter Trym.func10, Trym.ntmps10
  go_wp2_with fail
  refine (holds_any _ _ ss _ _ hl hr).mono ?_
  rintro e w' ⟨rfl, rfl⟩
  go_wp2
  go_ret
  exact ⟨rfl, rfl⟩

set_option maxHeartbeats 400000 in
theorem weigh_any (a : Option Addr) (cap : Nat) (ss : List ByteArray) (w : World) (hl : ss.length ≤ 9223372036854775807) (hr : Row w a ss) :
    Calls Trym.prog 7 #[.slice a ss.length cap, .int .i64 1048576] w fun e w' => (∃ r : Int, e = .returned (.int .i64 r) ∧ 0 ≤ r ∧ r ≤ 1048577) ∧ w' = w := by
  go_enter Trym.func7, Trym.ntmps7
  go_wp2
  go_loop [5, 6] (fun n i => ∃ (k : Nat) (m : Int), k ≤ ss.length ∧ i = .int .i64 k ∧ n = .int .i64 m ∧ 0 ≤ m ∧ m ≤ 1048576) (fun _ i => ss.length - (intOf i).toNat)
  case atStart => exact ⟨0, 0, Nat.zero_le _, rfl, rfl, by omega, by omega⟩
  case round =>
    obtain ⟨k, m, hk, rfl, rfl, hm0, hm1⟩ := hrel
    by_cases hlt : k < ss.length
    · obtain ⟨b, off, rfl, hb, hcell⟩ := hr k hlt
      by_cases hd : ss[k].size ≤ 1048576
      · by_cases hs : m + ((ss[k].size : Int) + 16) ≤ 1048576
        · go_wp2
          go_round
          case rel => exact ⟨k + 1, _, by omega, by go_num, rfl, by omega, by omega⟩
          case measure => simp [intOf]; omega
        · go_wp2
          go_ret
          exact ⟨⟨_, rfl, by omega, by omega⟩, rfl⟩
      · go_wp2
        go_ret
        exact ⟨⟨_, rfl, by omega, by omega⟩, rfl⟩
    · go_wp2
      go_ret
      exact ⟨⟨_, rfl, by omega, by omega⟩, rfl⟩

/-- It ends with a bool. -/
def RetBool (e : Ending) : Prop := ∃ r : Bool, e = .returned (.bool r)
theorem retBool (b : Bool) : RetBool (.returned (.bool b)) := ⟨b, rfl⟩

set_option maxHeartbeats 800000 in
theorem bytes12_any (a : Option Addr) (cap : Nat) (ss : List ByteArray) (s t : ByteArray) (w : World) (hl : ss.length ≤ 9223372036854775807) (hr : Row w a ss) :
    Calls Trym.prog 12 #[.slice a ss.length cap, .string s, .string t] w fun e w' => RetBool e ∧ w' = w := by
  by_cases h0 : ss.length ≤ 1048576
  · go_enter Trym.func12, Trym.ntmps12
    go_wp2
    go_loop [7, 8] (fun n i => ∃ (k : Nat) (m : Int), k ≤ ss.length ∧ i = .int .i64 k ∧ n = .int .i64 m ∧ 0 ≤ m ∧ m ≤ 1048576) (fun _ i => ss.length - (intOf i).toNat)
    case atStart => exact ⟨0, _, Nat.zero_le _, rfl, rfl, by omega, by omega⟩
    case round =>
      obtain ⟨k, m, hk, rfl, rfl, hm0, hm1⟩ := hrel
      by_cases hlt : k < ss.length
      · obtain ⟨b, off, rfl, hb, hcell⟩ := hr k hlt
        by_cases hd : ss[k].size ≤ 1048576
        · by_cases hs : m + (ss[k].size : Int) ≤ 1048576
          · go_wp2
            go_round
            case rel => exact ⟨k + 1, _, by omega, by go_num, rfl, by omega, by omega⟩
            case measure => simp [intOf]; omega
          · go_wp2
            go_ret
            exact ⟨retBool _, rfl⟩
        · go_wp2
          go_ret
          exact ⟨retBool _, rfl⟩
      · by_cases g1 : s.size ≤ 1048576
        · by_cases g2 : m + (s.size : Int) ≤ 1048576
          · by_cases g3 : t.size ≤ 1048576
            · by_cases g4 : m + (s.size : Int) + (t.size : Int) ≤ 1048576
              · go_wp2
                go_ret
                exact ⟨retBool _, rfl⟩
              · go_wp2
                go_ret
                exact ⟨retBool _, rfl⟩
            · go_wp2
              go_ret
              exact ⟨retBool _, rfl⟩
          · go_wp2
            go_ret
            exact ⟨retBool _, rfl⟩
        · go_wp2
          go_ret
          exact ⟨retBool _, rfl⟩
  · go_enter Trym.func12, Trym.ntmps12
    go_wp2
    go_ret
    exact ⟨retBool _, rfl⟩

theorem Trym.cells9 : Trym.prog.cellsOf 9 = 1 := by kernel_rfl
theorem Trym.info9 : (Trym.prog.info? 9).map (fun i => (i.zero, i.size, i.bytes)) = some (some (.string ByteArray.empty), 1, 16) := by kernel_rfl

/-- The call's own row of strings. -/
def Own (w : World) (B g n cap : Nat) (xs : List Value) : Prop := w.ownsRow B 9 1 (.slice (some ⟨g, 0, none⟩) n cap) n xs
def Filled (ss : List ByteArray) (k : Nat) (xs : List Value) : Prop := ∀ j (h : j < ss.length), j < k → xs[j]? = some (.string ss[j])

theorem own_lt {w : World} {B g n cap : Nat} {xs : List Value} (h : Own w B g n cap xs) : g < w.heap.size := by
  rcases h.2 with ⟨h', _⟩ | ⟨g', cap', cur, h', _, hg, _⟩
  · simp at h'
  · simp only [Value.slice.injEq, Option.some.injEq, Addr.mk.injEq, and_true, true_and] at h'
    obtain ⟨rfl, rfl⟩ := h'
    exact (Array.getElem?_eq_some_iff.1 hg).1
theorem own_len {w : World} {B g n cap : Nat} {xs : List Value} (h : Own w B g n cap xs) : xs.length = n := by
  have := h.1; simpa using this

theorem own_row {w : World} {B g n cap : Nat} {xs : List Value} {ss : List ByteArray} (h : Own w B g n cap xs) (hn : ss.length = n) (hf : Filled ss n xs) : Row w (some ⟨g, 0, none⟩) ss := by
  intro i hi
  refine ⟨g, 0, rfl, own_lt h, ?_⟩
  rw [Nat.zero_add, h.cellAt i (by omega)]
  exact hf i hi (by omega)

theorem row_below {w w' : World} {a : Option Addr} {ss : List ByteArray} (h : Row w a ss) (hb : Below w.heap.size w w') : Row w' a ss := by
  intro i hi
  obtain ⟨b, off, e, hlt, hc⟩ := h i hi
  exact ⟨b, off, e, Nat.lt_of_lt_of_le hlt hb.size, (hb.cell (p := ⟨b, off + i, none⟩) hlt).trans hc⟩

theorem filled_set {ss : List ByteArray} {k : Nat} {xs : List Value} (h : Filled ss k xs) (hk : k < ss.length) (hx : xs.length = ss.length) : Filled ss (k + 1) (xs.set k (.string ss[k])) := by
  intro j hj hjk
  by_cases e : j = k
  · subst e
    rw [List.getElem?_set_self (by omega)]
  · rw [List.getElem?_set_ne (by omega)]
    exact h j hj (by omega)

set_option maxHeartbeats 400000 in
theorem clone_any (a : Option Addr) (cap : Nat) (ss : List ByteArray) (w : World) (hl : ss.length ≤ 65536) (hr : Row w a ss) :
    Calls Trym.prog 8 #[.slice a ss.length cap] w fun e w' => ∃ (a' : Option Addr) (cap' : Nat), e = .returned (.slice a' ss.length cap') ∧ Row w' a' ss ∧ Below w.heap.size w w' := by
  obtain ⟨i0, hi, hz0, hz1, hz2⟩ := info_parts Trym.info9
  have hnil := fun (wx : World) (x : Option Addr) (n c : Nat) => Lib.run_eql_slice_nil (P := Trym.prog) wx 22 9 x n c 0 0 Trym.underlying22
  cases a with
  | none =>
    have hs : ss = [] := by
      cases ss with
      | nil => rfl
      | cons x l => obtain ⟨b, off, e, _⟩ := hr 0 (by simp); cases e
    subst hs
    go_enter Trym.func8, Trym.ntmps8
    go_wp2
    go_ret
    exact ⟨none, 0, rfl, hr, Below.refl _ _⟩
  | some x =>
    go_enter Trym.func8, Trym.ntmps8
    go_wp2_with (at_make; refine wpList_make_full _ rfl _ _ 22 rfl w.heap.size 9 i0 (.string ByteArray.empty) 1 Trym.underlying22 hi hz0 hz1 _ _ _ _ ss.length rfl rfl rfl rfl ?b2 ?b3 ?b4 ?_)
    case b2 => rw [hz2]; omega
    case b3 => unfold maxLen; omega
    case b4 => exact Nat.le_refl _
    intro w1 hown hgrow
    have hb1 : Below w.heap.size w w1 := (Below.refl _ _).grown hgrow (Nat.le_refl _) (fun _ h => by cases h)
    have HO : Hid (Own w1 w.heap.size w.heap.size ss.length ss.length (madeCells #[Value.string ByteArray.empty] ss.length).toList) := hown
    have HB : Hid (Below w.heap.size w w1) := hb1
    clear hown hgrow hb1 hi hz0 hz1 hz2 hnil
    go_wp2
    go_loopw [4] (fun i wr => ∃ (k : Nat) (xs : List Value), k ≤ ss.length ∧ i = .int .i64 k ∧ Hid (Own wr w.heap.size w.heap.size ss.length ss.length xs) ∧ Hid (Filled ss k xs) ∧ Hid (Below w.heap.size w wr)) (fun i _ => ss.length - (intOf i).toNat)
    case atStart => exact ⟨0, _, Nat.zero_le _, rfl, HO, fun j _ h => absurd h (by omega), HB⟩
    case round =>
      obtain ⟨k, xs, hk, rfl, HO, HF, HB⟩ := hrel
      by_cases hlt : k < ss.length
      · obtain ⟨b, off, e, hb, hc⟩ := hr k hlt
        cases e
        have hcell : wr.cell? ⟨b, off + k, none⟩ = some (.string ss[k]) := (HB.out.cell (p := ⟨b, off + k, none⟩) hb).trans hc
        have hx := own_len HO.out
        have hcell2 : ∃ v, wr.cell? ⟨w.heap.size, k, none⟩ = some v := ⟨xs[k], by rw [HO.out.cellAt k (by omega), List.getElem?_eq_getElem (by omega)]⟩
        obtain ⟨v, hcell2⟩ := hcell2
        have hfr : wr.frozen? ⟨w.heap.size, k, none⟩ = false := HO.out.frozenAt k
        have HO2 : Hid (Own (wr.setCell ⟨w.heap.size, k, none⟩ (.string ss[k])) w.heap.size w.heap.size ss.length ss.length (xs.set k (.string ss[k]))) := (HO.out.stored k _).1
        have HF2 : Hid (Filled ss (k + 1) (xs.set k (.string ss[k]))) := filled_set HF.out hlt hx
        have HB2 : Hid (Below w.heap.size w (wr.setCell ⟨w.heap.size, k, none⟩ (.string ss[k]))) := HB.out.setCell (Nat.le_refl _) _
        clear hx HO HF HB
        go_wp2
        go_roundw
        case rel => exact ⟨k + 1, _, by omega, by go_num, HO2, HF2, HB2⟩
        case measure => simp [intOf]; omega
      · have hke : k = ss.length := by omega
        have HR : Hid (Row wr (some ⟨w.heap.size, 0, none⟩) ss) := own_row HO.out rfl (hke ▸ HF.out)
        clear hke
        go_wp2
        go_ret
        exact ⟨_, _, rfl, HR.out, HB.out⟩
end Go.Proofs.Qxb6001779aMods
