import Derived.Test.Qxb6001281aModsWalks
import Derived.Test.Qxb6001281aModsPlain
namespace Go.Proofs.Qxb6001281aMods
open Go.RowKit

theorem Trym.info5 : (Trym.prog.info? 5).map (fun i => (i.zero, i.size, i.bytes)) = some (some (.int .u8 0), 1, 1) := by kernel_rfl

/-- The call's own row of bytes. -/
def OwnB (w : World) (B g n : Nat) (xs : List Value) : Prop := w.ownsRow B 5 1 (.slice (some ⟨g, 0, none⟩) n n) n xs
/-- The first cells are the bytes l. -/
def BFill (l : List UInt8) (xs : List Value) : Prop := ∀ j (h : j < l.length), xs[j]? = some (.int .u8 ((l[j]).toNat : Int))

theorem ownB_lt {w : World} {B g n : Nat} {xs : List Value} (h : OwnB w B g n xs) : g < w.heap.size := by
  rcases h.2 with ⟨h', _⟩ | ⟨g', cap', cur, h', _, hg, _⟩
  · simp at h'
  · simp only [Value.slice.injEq, Option.some.injEq, Addr.mk.injEq, and_true, true_and] at h'
    obtain ⟨rfl, rfl⟩ := h'
    exact (Array.getElem?_eq_some_iff.1 hg).1
theorem ownB_len {w : World} {B g n : Nat} {xs : List Value} (h : OwnB w B g n xs) : xs.length = n := by
  have := h.1; simpa using this
theorem ownB_cell {w : World} {B g n : Nat} {xs : List Value} (h : OwnB w B g n xs) (p : Nat) (hp : p < n) : ∃ v, w.cell? ⟨g, p, none⟩ = some v :=
  ⟨xs[p]'(by rw [ownB_len h]; exact hp), by rw [h.cellAt p (by omega), List.getElem?_eq_getElem (by rw [ownB_len h]; exact hp)]⟩
theorem bfill_set {l : List UInt8} {xs : List Value} (h : BFill l xs) (hlt : l.length < xs.length) (c : UInt8) : BFill (l ++ [c]) (xs.set l.length (.int .u8 (c.toNat : Int))) := by
  intro j hj
  by_cases e : j = l.length
  · subst e
    rw [List.getElem?_set_self hlt]
    simp
  · have hj' : j < l.length := by simp at hj; omega
    rw [List.getElem?_set_ne (by omega), h j hj', List.getElem_append_left hj']
theorem bfill_nil (xs : List Value) : BFill [] xs := fun j h => absurd h (by simp)

theorem take_len (ss : List ByteArray) (k : Nat) : (Pl.enc (ss.take k)).length ≤ (Pl.enc ss).length := by
  rw [← Pl.enc_all ss k, List.length_append]; omega
theorem byte_size (n : Nat) (h : n ≤ 255) : (((UInt8.ofNat n).toNat : Nat) : Int) = (n : Int) := by
  simp only [UInt8.toNat_ofNat']
  omega

theorem inner_len (l : List UInt8) (s : ByteArray) (c : UInt8) (j : Nat) (h : j ≤ s.size) : (l ++ (c :: s.data.toList.take j)).length = l.length + 1 + j := by
  have := Pl.size_list s
  simp only [List.length_append, List.length_cons, List.length_take]
  omega
theorem inner_snoc (l : List UInt8) (s : ByteArray) (c : UInt8) (j : Nat) (h : j < s.size) : l ++ (c :: s.data.toList.take (j + 1)) = (l ++ (c :: s.data.toList.take j)) ++ [s[j]] := by
  rw [List.take_succ_eq_append_getElem (by rw [Pl.size_list]; exact h), List.append_assoc, List.cons_append]
  rfl
theorem inner_step {l : List UInt8} {s : ByteArray} {c : UInt8} {j : Nat} {xs : List Value} (h : j < s.size) (hx : l.length + 1 + j < xs.length) (hf : BFill (l ++ (c :: s.data.toList.take j)) xs) :
    BFill (l ++ (c :: s.data.toList.take (j + 1))) (xs.set (l.length + 1 + j) (.int .u8 ((s[j]).toNat : Int))) := by
  have hl := inner_len l s c j (Nat.le_of_lt h)
  have := bfill_set hf (by rw [hl]; exact hx) (s[j])
  rw [hl] at this
  rw [inner_snoc l s c j h]
  exact this
theorem inner_done (ss : List ByteArray) (k : Nat) (h : k < ss.length) : Pl.enc (ss.take k) ++ (UInt8.ofNat ss[k].size :: ss[k].data.toList.take ss[k].size) = Pl.enc (ss.take (k + 1)) := by
  have e : ss[k].data.toList.take ss[k].size = ss[k].data.toList := List.take_of_length_le (by rw [Pl.size_list]; exact Nat.le_refl _)
  rw [Pl.enc_snoc ss k h, e]
  rfl

set_option maxHeartbeats 1600000 in
theorem encode_any (a : Option Addr) (la cap : Nat) (ss : List ByteArray) (w : World) (ha : ss.length = la) (hl : ss.length ≤ 65536) (hs : Small 255 ss ss.length) (hr : Row w a ss) :
    Calls Trym.prog 9 #[.slice a la cap] w fun e w' => ∃ b : Nat, e = .returned (.slice (some ⟨b, 0, none⟩) (Pl.enc ss).length (Pl.enc ss).length) ∧ b < w'.heap.size ∧
      (∀ j (h : j < (Pl.enc ss).length), w'.cell? ⟨b, j, none⟩ = some (.int .u8 (((Pl.enc ss)[j]).toNat : Int))) ∧ Below w.heap.size w w' := by
  subst ha
  have hN : (Pl.enc ss).length ≤ 16777216 := by have := Pl.len_bound ss (fun i h => hs i h h); omega
  go_enter Trym.func9, Trym.ntmps9
  go_wp2
  go_loop [3, 4] (fun n i => ∃ (k : Nat), k ≤ ss.length ∧ i = .int .i64 k ∧ n = .int .i64 ((Pl.enc (ss.take k)).length : Int)) (fun _ i => ss.length - (intOf i).toNat)
  case atStart => exact ⟨0, Nat.zero_le _, rfl, rfl⟩
  case round =>
    obtain ⟨k, hk, rfl, rfl⟩ := hrel
    have hPN := take_len ss k
    by_cases hlt : k < ss.length
    · obtain ⟨b, off, rfl, hb, hcell⟩ := hr k hlt
      have hd := hs k hlt hlt
      have HL : Hid ((Pl.enc (ss.take (k + 1))).length = (Pl.enc (ss.take k)).length + (1 + ss[k].size)) := Pl.len_snoc ss k hlt
      go_wp2
      go_round
      case rel => exact ⟨k + 1, by omega, by go_num, by rw [HL.out]; go_num⟩
      case measure => simp [intOf]; omega
    · obtain rfl : k = ss.length := by omega
      rw [List.take_length]
      clear hPN
      obtain ⟨i0, hi, hz0, hz1, hz2⟩ := info_parts Trym.info5
      go_wp2_with (at_make; refine wpList_make_full _ rfl _ _ 26 rfl w.heap.size 5 i0 (.int .u8 0) 1 Trym.underlying26 hi hz0 hz1 _ _ _ _ (Pl.enc ss).length rfl rfl rfl rfl ?b2 ?b3 ?b4 ?_)
      case b2 => omega
      case b3 => unfold maxLen; omega
      intro w1 hown hgrow
      have HB : Hid (Below w.heap.size w w1) := (Below.refl _ _).grown hgrow (Nat.le_refl _) (fun _ h => by cases h)
      have hown' : ∃ xs, Hid (OwnB w1 w.heap.size w.heap.size (Pl.enc ss).length xs) := ⟨_, hown⟩
      obtain ⟨xs, HO⟩ := hown'
      clear hown hgrow hi hz0 hz1 hz2 hlt
      go_wp2
      go_loopw [6, 7] (fun p i wr => ∃ (k : Nat) (xs : List Value), k ≤ ss.length ∧ i = .int .i64 k ∧ p = .int .i64 ((Pl.enc (ss.take k)).length : Int) ∧ Hid (OwnB wr w.heap.size w.heap.size (Pl.enc ss).length xs) ∧ Hid (BFill (Pl.enc (ss.take k)) xs) ∧ Hid (Below w.heap.size w wr)) (fun _ i _ => ss.length - (intOf i).toNat)
      case atStart => exact ⟨0, xs, Nat.zero_le _, rfl, rfl, HO, bfill_nil _, HB⟩
      case round =>
        clear HO HB
        clear xs
        obtain ⟨k, xs, hk, rfl, rfl, HO, HF, HB⟩ := hrel
        by_cases hlt : k < ss.length
        · obtain ⟨b, off, rfl, hb, hc⟩ := hr k hlt
          have hcell : wr.cell? ⟨b, off + k, none⟩ = some (.string ss[k]) := (HB.out.cell (p := ⟨b, off + k, none⟩) hb).trans hc
          have hd := hs k hlt hlt
          have hPN : (Pl.enc (ss.take k)).length + (1 + ss[k].size) ≤ (Pl.enc ss).length := by have := Pl.len_split ss k hlt; omega
          obtain ⟨v, hcell2⟩ := ownB_cell HO.out (Pl.enc (ss.take k)).length (by omega)
          have hfr : wr.frozen? ⟨w.heap.size, (Pl.enc (ss.take k)).length, none⟩ = false := HO.out.frozenAt _
          have HO2 : Hid (OwnB (wr.setCell ⟨w.heap.size, (Pl.enc (ss.take k)).length, none⟩ (.int .u8 (ss[k].size : Int))) w.heap.size w.heap.size (Pl.enc ss).length (xs.set (Pl.enc (ss.take k)).length (.int .u8 (ss[k].size : Int)))) := (HO.out.stored _ _).1
          have HF2 : Hid (BFill (Pl.enc (ss.take k) ++ [UInt8.ofNat ss[k].size]) (xs.set (Pl.enc (ss.take k)).length (.int .u8 (ss[k].size : Int)))) := by
            have := bfill_set HF.out (by rw [ownB_len HO.out]; omega) (UInt8.ofNat ss[k].size)
            rw [byte_size _ hd] at this
            exact this
          have HB2 : Hid (Below w.heap.size w (wr.setCell ⟨w.heap.size, (Pl.enc (ss.take k)).length, none⟩ (.int .u8 (ss[k].size : Int)))) := HB.out.setCell (Nat.le_refl _) _
          clear hc HO HF HB
          go_wp2
          go_loopw [6, 9] (fun p i wr => ∃ (j : Nat) (xs : List Value), j ≤ ss[k].size ∧ i = .int .i64 j ∧ p = .int .i64 ((Pl.enc (ss.take k)).length + 1 + j : Int) ∧ Hid (OwnB wr w.heap.size w.heap.size (Pl.enc ss).length xs) ∧ Hid (BFill (Pl.enc (ss.take k) ++ (UInt8.ofNat ss[k].size :: ss[k].data.toList.take j)) xs) ∧ Hid (Below w.heap.size w wr)) (fun _ i _ => ss[k].size - (intOf i).toNat)
          case atStart => exact ⟨0, _, Nat.zero_le _, rfl, by go_num, HO2, HF2, HB2⟩
          case round =>
            clear HO2 HF2 HB2 hcell hcell2 hfr
            clear xs
            obtain ⟨j, xs, hj, rfl, rfl, HO, HF, HB⟩ := hrel
            by_cases hjl : j < ss[k].size
            · obtain ⟨v2, hcell3⟩ := ownB_cell HO.out ((Pl.enc (ss.take k)).length + 1 + j) (by omega)
              have hfr3 : wr.frozen? ⟨w.heap.size, (Pl.enc (ss.take k)).length + 1 + j, none⟩ = false := HO.out.frozenAt _
              have HO3 : Hid (OwnB (wr.setCell ⟨w.heap.size, (Pl.enc (ss.take k)).length + 1 + j, none⟩ (.int .u8 ((ss[k][j]).toNat : Int))) w.heap.size w.heap.size (Pl.enc ss).length (xs.set ((Pl.enc (ss.take k)).length + 1 + j) (.int .u8 ((ss[k][j]).toNat : Int)))) := (HO.out.stored _ _).1
              have HF3 : Hid (BFill (Pl.enc (ss.take k) ++ (UInt8.ofNat ss[k].size :: ss[k].data.toList.take (j + 1))) (xs.set ((Pl.enc (ss.take k)).length + 1 + j) (.int .u8 ((ss[k][j]).toNat : Int)))) :=
                inner_step hjl (by rw [ownB_len HO.out]; omega) HF.out
              have HB3 : Hid (Below w.heap.size w (wr.setCell ⟨w.heap.size, (Pl.enc (ss.take k)).length + 1 + j, none⟩ (.int .u8 ((ss[k][j]).toNat : Int)))) := HB.out.setCell (Nat.le_refl _) _
              clear HO HF HB
              go_wp2
              go_roundw
              case rel => exact ⟨j + 1, _, by omega, by go_num, by go_num, HO3, HF3, HB3⟩
              case measure => simp [intOf]; omega
            · obtain rfl : j = ss[k].size := by omega
              have HF4 : Hid (BFill (Pl.enc (ss.take (k + 1))) xs) := by have := HF.out; rw [inner_done ss k hlt] at this; exact this
              have HL : Hid ((Pl.enc (ss.take (k + 1))).length = (Pl.enc (ss.take k)).length + (1 + ss[k].size)) := Pl.len_snoc ss k hlt
              clear HF hjl
              go_wp2
              go_roundw
              case rel => exact ⟨k + 1, _, by omega, by go_num, by rw [HL.out]; go_num, HO, HF4, HB⟩
              case measure => simp [intOf]; omega
        · obtain rfl : k = ss.length := by omega
          rw [List.take_length] at HF
          rw [List.take_length]
          clear hr hlt
          go_wp2
          go_ret
          refine ⟨w.heap.size, rfl, ownB_lt HO.out, fun j h => ?_, HB.out⟩
          rw [HO.out.cellAt j (by omega)]
          exact HF.out j h
end Go.Proofs.Qxb6001281aMods
