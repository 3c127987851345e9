import Derived.Test.Qxb6001281aModsRows
import Derived.WalkKit
import Derived.WalkSpells
import Derived.WalkLawsBesides
namespace Go.Proofs.Qxb6001281aMods
open Go.RowKit

/-- What is known of a []string that is read: its strings lie where its address says. -/
def Row (w : World) (a : Option Addr) (ss : List ByteArray) : Prop :=
  ∀ i (h : i < ss.length), ∃ b off, a = some ⟨b, off, none⟩ ∧ b < w.heap.size ∧ w.cell? ⟨b, off + i, none⟩ = some (.string ss[i])

/-- The first k strings have at most N bytes each. -/
def Small (N : Nat) (ss : List ByteArray) (k : Nat) : Prop := ∀ i (h : i < ss.length), i < k → (ss[i]).size ≤ N
theorem small_zero (N : Nat) (ss : List ByteArray) : Small N ss 0 := fun i _ h => absurd h (Nat.not_lt_zero i)
theorem small_step {N : Nat} {ss : List ByteArray} {k : Nat} (h : Small N ss k) (hk : k < ss.length) (hs : (ss[k]).size ≤ N) : Small N ss (k + 1) := by
  intro i hi hik
  by_cases e : i = k
  · subst e; exact hs
  · exact h i hi (by omega)

/-- It ends with a bool, and with true only where every string is small. -/
def RetGuard (ss : List ByteArray) (e : Ending) : Prop := ∃ r : Bool, e = .returned (.bool r) ∧ (r = true → Small 1048576 ss ss.length)
theorem retNo (ss : List ByteArray) : RetGuard ss (.returned (.bool false)) := ⟨false, rfl, fun h => by cases h⟩
theorem retYes {ss : List ByteArray} (h : Small 1048576 ss ss.length) : RetGuard ss (.returned (.bool true)) := ⟨true, rfl, fun _ => h⟩

set_option maxHeartbeats 800000 in
theorem bytes6_any (a : Option Addr) (cap : Nat) (ss : List ByteArray) (w : World) (hl : ss.length ≤ 9223372036854775807) (hr : Row w a ss) :
    Calls Trym.prog 6 #[.slice a ss.length cap] w fun e w' => RetGuard ss e ∧ w' = w := by
  by_cases h0 : ss.length ≤ 1048576
  · go_enter Trym.func6, Trym.ntmps6
    go_wp2
    go_loop [3, 4] (fun n i => ∃ (k : Nat) (m : Int), k ≤ ss.length ∧ i = .int .i64 k ∧ n = .int .i64 m ∧ 0 ≤ m ∧ m ≤ 1048576 ∧ Hid (Small 1048576 ss k)) (fun _ i => ss.length - (intOf i).toNat)
    case atStart => exact ⟨0, _, Nat.zero_le _, rfl, rfl, by omega, by omega, small_zero _ _⟩
    case round =>
      obtain ⟨k, m, hk, rfl, rfl, hm0, hm1, HS⟩ := hrel
      by_cases hlt : k < ss.length
      · obtain ⟨b, off, rfl, hb, hcell⟩ := hr k hlt
        by_cases hd : ss[k].size ≤ 1048576
        · have HS2 : Hid (Small 1048576 ss (k + 1)) := small_step HS.out hlt hd
          by_cases hs : m + (ss[k].size : Int) ≤ 1048576
          · go_wp2
            go_round
            case rel => exact ⟨k + 1, _, by omega, by go_num, rfl, by omega, by omega, HS2⟩
            case measure => simp [intOf]; omega
          · go_wp2
            go_ret
            exact ⟨retNo _, rfl⟩
        · go_wp2
          go_ret
          exact ⟨retNo _, rfl⟩
      · have HS2 : Hid (Small 1048576 ss ss.length) := by
          have := HS.out
          rw [show k = ss.length by omega] at this; exact this
        go_wp2
        go_ret
        exact ⟨retYes HS2.out, rfl⟩
  · go_enter Trym.func6, Trym.ntmps6
    go_wp2
    go_ret
    exact ⟨retNo _, rfl⟩

/-- It ends with an int. -/
def RetInt (e : Ending) : Prop := ∃ r : Int, e = .returned (.int .i64 r) ∧ 0 ≤ r ∧ r ≤ 1048577
theorem retInt (r : Int) (h0 : 0 ≤ r) (h1 : r ≤ 1048577) : RetInt (.returned (.int .i64 r)) := ⟨r, rfl, h0, h1⟩

set_option maxHeartbeats 800000 in
theorem size_any (a : Option Addr) (cap : Nat) (ss : List ByteArray) (w : World) (hl : ss.length ≤ 65536) (hr : Row w a ss) (hs : Small 1048576 ss ss.length) :
    Calls Trym.prog 7 #[.slice a ss.length cap] w fun e w' => RetInt e ∧ w' = w := by
  go_enter Trym.func7, Trym.ntmps7
  go_wp2
  go_loop [3, 4] (fun n i => ∃ (k : Nat) (m : Int), k ≤ ss.length ∧ i = .int .i64 k ∧ n = .int .i64 m ∧ 0 ≤ m ∧ m ≤ 1048576) (fun _ i => ss.length - (intOf i).toNat)
  case atStart => exact ⟨0, _, Nat.zero_le _, rfl, rfl, by omega, by omega⟩
  case round =>
    obtain ⟨k, m, hk, rfl, rfl, hm0, hm1⟩ := hrel
    by_cases hlt : k < ss.length
    · obtain ⟨b, off, rfl, hb, hcell⟩ := hr k hlt
      have hd := hs k hlt hlt
      by_cases h2 : m + (ss[k].size : Int) ≤ 1048576
      · go_wp2
        go_round
        case rel => exact ⟨k + 1, _, by omega, by go_num, rfl, by omega, by omega⟩
        case measure => simp [intOf]; omega
      · go_wp2
        go_ret
        exact ⟨retInt _ (by omega) (by omega), rfl⟩
    · go_wp2
      go_ret
      exact ⟨retInt _ (by omega) (by omega), rfl⟩

theorem Trym.cells9 : Trym.prog.cellsOf 9 = 1 := by kernel_rfl
theorem Trym.info9 : (Trym.prog.info? 9).map (fun i => (i.zero, i.size, i.bytes)) = some (some (.string ByteArray.empty), 1, 16) := by kernel_rfl

/-- The call's own row of strings. -/
def Own (w : World) (B g n cap : Nat) (xs : List Value) : Prop := w.ownsRow B 9 1 (.slice (some ⟨g, 0, none⟩) n cap) n xs
def Filled (ss : List ByteArray) (k : Nat) (xs : List Value) : Prop := ∀ j (h : j < ss.length), j < k → xs[j]? = some (.string ss[j])

theorem own_lt {w : World} {B g n cap : Nat} {xs : List Value} (h : Own w B g n cap xs) : g < w.heap.size := by
  rcases h.2 with ⟨h', _⟩ | ⟨g', cap', cur, h', _, hg, _⟩
  · simp at h'
  · simp only [Value.slice.injEq, Option.some.injEq, Addr.mk.injEq, and_true, true_and] at h'
    obtain ⟨rfl, rfl⟩ := h'
    exact (Array.getElem?_eq_some_iff.1 hg).1
theorem own_len {w : World} {B g n cap : Nat} {xs : List Value} (h : Own w B g n cap xs) : xs.length = n := by
  have := h.1; simpa using this

theorem own_row {w : World} {B g n cap : Nat} {xs : List Value} {ss : List ByteArray} (h : Own w B g n cap xs) (hn : ss.length = n) (hf : Filled ss n xs) : Row w (some ⟨g, 0, none⟩) ss := by
  intro i hi
  refine ⟨g, 0, rfl, own_lt h, ?_⟩
  rw [Nat.zero_add, h.cellAt i (by omega)]
  exact hf i hi (by omega)

theorem row_below {w w' : World} {a : Option Addr} {ss : List ByteArray} (h : Row w a ss) (hb : Below w.heap.size w w') : Row w' a ss := by
  intro i hi
  obtain ⟨b, off, e, hlt, hc⟩ := h i hi
  exact ⟨b, off, e, Nat.lt_of_lt_of_le hlt hb.size, (hb.cell (p := ⟨b, off + i, none⟩) hlt).trans hc⟩

theorem filled_set {ss : List ByteArray} {k : Nat} {xs : List Value} (h : Filled ss k xs) (hk : k < ss.length) (hx : xs.length = ss.length) : Filled ss (k + 1) (xs.set k (.string ss[k])) := by
  intro j hj hjk
  by_cases e : j = k
  · subst e
    rw [List.getElem?_set_self (by omega)]
  · rw [List.getElem?_set_ne (by omega)]
    exact h j hj (by omega)

set_option maxHeartbeats 400000 in
theorem clone_any (a : Option Addr) (cap : Nat) (ss : List ByteArray) (w : World) (hl : ss.length ≤ 65536) (hr : Row w a ss) :
    Calls Trym.prog 8 #[.slice a ss.length cap] w fun e w' => ∃ (a' : Option Addr) (cap' : Nat), e = .returned (.slice a' ss.length cap') ∧ Row w' a' ss ∧ Below w.heap.size w w' := by
  obtain ⟨i0, hi, hz0, hz1, hz2⟩ := info_parts Trym.info9
  have hnil := fun (wx : World) (x : Option Addr) (n c : Nat) => Lib.run_eql_slice_nil (P := Trym.prog) wx 22 9 x n c 0 0 Trym.underlying22
  cases a with
  | none =>
    have hs : ss = [] := by
      cases ss with
      | nil => rfl
      | cons x l => obtain ⟨b, off, e, _⟩ := hr 0 (by simp); cases e
    subst hs
    go_enter Trym.func8, Trym.ntmps8
    go_wp2
    go_ret
    exact ⟨none, 0, rfl, hr, Below.refl _ _⟩
  | some x =>
    go_enter Trym.func8, Trym.ntmps8
    go_wp2_with (at_make; refine wpList_make_full _ rfl _ _ 22 rfl w.heap.size 9 i0 (.string ByteArray.empty) 1 Trym.underlying22 hi hz0 hz1 _ _ _ _ ss.length rfl rfl rfl rfl ?b2 ?b3 ?b4 ?_)
    case b2 => rw [hz2]; omega
    case b3 => unfold maxLen; omega
    case b4 => exact Nat.le_refl _
    intro w1 hown hgrow
    have hb1 : Below w.heap.size w w1 := (Below.refl _ _).grown hgrow (Nat.le_refl _) (fun _ h => by cases h)
    have HO : Hid (Own w1 w.heap.size w.heap.size ss.length ss.length (madeCells #[Value.string ByteArray.empty] ss.length).toList) := hown
    have HB : Hid (Below w.heap.size w w1) := hb1
    clear hown hgrow hb1 hi hz0 hz1 hz2 hnil
    go_wp2
    go_loopw [4] (fun i wr => ∃ (k : Nat) (xs : List Value), k ≤ ss.length ∧ i = .int .i64 k ∧ Hid (Own wr w.heap.size w.heap.size ss.length ss.length xs) ∧ Hid (Filled ss k xs) ∧ Hid (Below w.heap.size w wr)) (fun i _ => ss.length - (intOf i).toNat)
    case atStart => exact ⟨0, _, Nat.zero_le _, rfl, HO, fun j _ h => absurd h (by omega), HB⟩
    case round =>
      obtain ⟨k, xs, hk, rfl, HO, HF, HB⟩ := hrel
      by_cases hlt : k < ss.length
      · obtain ⟨b, off, e, hb, hc⟩ := hr k hlt
        cases e
        have hcell : wr.cell? ⟨b, off + k, none⟩ = some (.string ss[k]) := (HB.out.cell (p := ⟨b, off + k, none⟩) hb).trans hc
        have hx := own_len HO.out
        have hcell2 : ∃ v, wr.cell? ⟨w.heap.size, k, none⟩ = some v := ⟨xs[k], by rw [HO.out.cellAt k (by omega), List.getElem?_eq_getElem (by omega)]⟩
        obtain ⟨v, hcell2⟩ := hcell2
        have hfr : wr.frozen? ⟨w.heap.size, k, none⟩ = false := HO.out.frozenAt k
        have HO2 : Hid (Own (wr.setCell ⟨w.heap.size, k, none⟩ (.string ss[k])) w.heap.size w.heap.size ss.length ss.length (xs.set k (.string ss[k]))) := (HO.out.stored k _).1
        have HF2 : Hid (Filled ss (k + 1) (xs.set k (.string ss[k]))) := filled_set HF.out hlt hx
        have HB2 : Hid (Below w.heap.size w (wr.setCell ⟨w.heap.size, k, none⟩ (.string ss[k]))) := HB.out.setCell (Nat.le_refl _) _
        clear hx HO HF HB
        go_wp2
        go_roundw
        case rel => exact ⟨k + 1, _, by omega, by go_num, HO2, HF2, HB2⟩
        case measure => simp [intOf]; omega
      · have hke : k = ss.length := by omega
        have HR : Hid (Row wr (some ⟨w.heap.size, 0, none⟩) ss) := own_row HO.out rfl (hke ▸ HF.out)
        clear hke
        go_wp2
        go_ret
        exact ⟨_, _, rfl, HR.out, HB.out⟩

set_option maxHeartbeats 800000 in
theorem equal_any (a : Option Addr) (la cap : Nat) (a2 : Option Addr) (lb cap2 : Nat) (ss : List ByteArray) (w : World) (ha : ss.length = la) (hb : ss.length = lb) (hl : ss.length ≤ 65536) (hr : Row w a ss) (hr2 : Row w a2 ss) :
    Calls Trym.prog 10 #[.slice a la cap, .slice a2 lb cap2] w fun e w' => e = .returned (.bool true) ∧ Below w.heap.size w w' := by
  subst ha hb
  go_enter Trym.func10, Trym.ntmps10
  go_wp2
  go_loopw [5] (fun i wr => ∃ (k : Nat), k ≤ ss.length ∧ i = .int .i64 k ∧ Hid (Below w.heap.size w wr)) (fun i _ => ss.length - (intOf i).toNat)
  case atStart => exact ⟨0, Nat.zero_le _, rfl, Below.refl _ _⟩
  case round =>
    obtain ⟨k, hk, rfl, HB⟩ := hrel
    by_cases hlt : k < ss.length
    · obtain ⟨b, off, rfl, hb1, hc1⟩ := hr k hlt
      obtain ⟨b2, off2, rfl, hb2, hc2⟩ := hr2 k hlt
      have hcell : wr.cell? ⟨b, off + k, none⟩ = some (.string ss[k]) := (HB.out.cell (p := ⟨b, off + k, none⟩) hb1).trans hc1
      have hcell2 : wr.cell? ⟨b2, off2 + k, none⟩ = some (.string ss[k]) := (HB.out.cell (p := ⟨b2, off2 + k, none⟩) hb2).trans hc2
      clear hc1 hc2
      go_wp2
      go_region
      go_wp2
      go_roundw
      case rel => exact ⟨k + 1, by omega, by go_num, HB.out.drew⟩
      case measure => simp [intOf]; omega
    · go_wp2
      go_ret
      exact ⟨rfl, HB.out⟩
end Go.Proofs.Qxb6001281aMods
