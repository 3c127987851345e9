import Derived.Test.Qxb6001384aModsCanonA
import Derived.Test.Qxb6001384aModsCanonB
import Derived.Test.Qxb6001384aModsCanonC
import Derived.Test.Qxb6001384aModsCanonD
namespace Go.Proofs.Qxb6001384aMods
open Go.RowKit

def ffs : List UInt8 := List.replicate 30 255
def zeros : List UInt8 := List.replicate 30 0

theorem at31 (x t : UInt8) (m : List UInt8) (hm : m.length = 30) : (row (Y x m t))[31]? = some (.int .u8 (t.toNat : Int)) := by
  rw [row_at _ 31 (by rw [Y_len _ _ _ hm]; omega)]
  simp [Y, hm]
theorem at0 (x t : UInt8) (m : List UInt8) : (row (Y x m t))[0]? = some (.int .u8 (x.toNat : Int)) := by
  rw [row_at _ 0 (by simp [Y])]; rfl
theorem set31 (x t t2 : UInt8) (m : List UInt8) (hm : m.length = 30) : (row (Y x m t)).setIfInBounds 31 (.int .u8 (t2.toNat : Int)) = row (Y x m t2) := by
  rw [row_set]
  congr 1
  simp [Y, hm]
theorem mid (x t c : UInt8) (j : Nat) (hj : j < 30) : (row (Y x (List.replicate 30 c) t))[1 + j]? = some (.int .u8 (c.toNat : Int)) := by
  rw [row_at _ (1 + j) (by simp [Y]; omega)]
  have : (Y x (List.replicate 30 c) t)[1 + j]'(by simp [Y]; omega) = c := by
    unfold Y
    simp only [Nat.add_comm 1 j, List.getElem_cons_succ]
    rw [List.getElem_append_left (by simpa using hj), List.getElem_replicate]
  rw [this]

theorem zz_any (b : Nat) (w : World) (r : Bool) (h : Calls Trym.prog 8 #[.slice (some ⟨b, 0, none⟩) 32 32] w fun e w' => e = .returned (.bool r) ∧ Below w.heap.size w w') :
    Calls Trym.prog 6 #[.slice (some ⟨b, 0, none⟩) 32 32] w fun e w' => e = .returned (.bool r) ∧ Below w.heap.size w w' := by
  go_enter Trym.func6, Trym.ntmps6
  go_wp2_with fail
  refine h.mono ?_
  rintro e w' ⟨rfl, hb⟩
  go_wp2
  go_ret
  exact ⟨rfl, hb⟩

theorem top_plain (b : Nat) (x : UInt8) (w : World) (hb : w.heap[b]? = some (.cells (row (Y x ffs 127)) 22 (0, 0))) :
    Calls Trym.prog 6 #[.slice (some ⟨b, 0, none⟩) 32 32] w fun e w' => e = .returned (.bool (!decide ((237 : Int) ≤ (x.toNat : Int)))) ∧ Below w.heap.size w w' :=
  zz_any b w _ (canonA b x _ (Y x ffs 127) w hb (Y_len _ _ _ rfl) (Y_len _ _ _ rfl) (at31 x 127 ffs rfl) (set31 x 127 127 ffs rfl) (at31 x 127 ffs rfl) (at0 x 127 ffs) (mid x 127 255))
theorem top_sign (b : Nat) (x : UInt8) (w : World) (hb : w.heap[b]? = some (.cells (row (Y x ffs 255)) 22 (0, 0))) :
    Calls Trym.prog 6 #[.slice (some ⟨b, 0, none⟩) 32 32] w fun e w' => e = .returned (.bool (!decide ((237 : Int) ≤ (x.toNat : Int)) && !(x == 236))) ∧ Below w.heap.size w w' :=
  zz_any b w _ (canonB b x _ (Y x ffs 127) w hb (Y_len _ _ _ rfl) (Y_len _ _ _ rfl) (at31 x 255 ffs rfl) (set31 x 255 127 ffs rfl) (at31 x 127 ffs rfl) (at0 x 127 ffs) (mid x 127 255) (x == 236)
    (by rw [Bool.eq_false_iff]; intro e; have := eq_of_beq e; have h := congrArg (fun l => l[1]?) this; simp [Y, ffs, one] at h)
    (by rw [Bool.eq_iff_iff]; simp [Y, ffs, Z]))
theorem low_plain (b : Nat) (x : UInt8) (w : World) (hb : w.heap[b]? = some (.cells (row (Y x zeros 0)) 22 (0, 0))) :
    Calls Trym.prog 6 #[.slice (some ⟨b, 0, none⟩) 32 32] w fun e w' => e = .returned (.bool true) ∧ Below w.heap.size w w' :=
  zz_any b w _ (canonC b x _ (Y x zeros 0) w hb (Y_len _ _ _ rfl) (Y_len _ _ _ rfl) (at31 x 0 zeros rfl) (set31 x 0 0 zeros rfl) (at31 x 0 zeros rfl) (at0 x 0 zeros) (mid x 0 0))
theorem low_sign (b : Nat) (x : UInt8) (w : World) (hb : w.heap[b]? = some (.cells (row (Y x zeros 128)) 22 (0, 0))) :
    Calls Trym.prog 6 #[.slice (some ⟨b, 0, none⟩) 32 32] w fun e w' => e = .returned (.bool (!(x == 1))) ∧ Below w.heap.size w w' :=
  zz_any b w _ (canonD b x _ (Y x zeros 0) w hb (Y_len _ _ _ rfl) (Y_len _ _ _ rfl) (at31 x 128 zeros rfl) (set31 x 128 0 zeros rfl) (at31 x 0 zeros rfl) (at0 x 0 zeros) (mid x 0 0) (x == 1)
    (by rw [Bool.eq_iff_iff]; simp [Y, zeros, one])
    (by rw [Bool.eq_false_iff]; intro e; have := eq_of_beq e; have h := congrArg (fun l => l[1]?) this; simp [Y, zeros, Z] at h))

/-- The array e when the loop stands at i = j. -/
def T (x : UInt8) (j : Nat) : List UInt8 := x :: (List.replicate (j - 1) 255 ++ List.replicate (32 - j) 0)
theorem T_len (x : UInt8) (j : Nat) (h1 : 1 ≤ j) (h2 : j ≤ 31) : (T x j).length = 32 := by simp [T]; omega
theorem T_tail : ∀ j : Fin 31, 1 ≤ j.val → (List.replicate (j.val - 1) (255 : UInt8) ++ List.replicate (32 - j.val) 0).set (j.val - 1) 255 = List.replicate (j.val + 1 - 1) 255 ++ List.replicate (32 - (j.val + 1)) 0 := by decide
theorem T_set (x : UInt8) (j : Nat) (h1 : 1 ≤ j) (h2 : j < 31) : (T x j).set j 255 = T x (j + 1) := by
  have h := T_tail ⟨j, h2⟩ h1
  obtain ⟨q, rfl⟩ : ∃ q, j = q + 1 := ⟨j - 1, by omega⟩
  unfold T
  rw [List.set_cons_succ]
  simp only [Nat.add_sub_cancel] at h ⊢
  rw [h]
theorem rowT_set (x : UInt8) (j : Nat) (h1 : 1 ≤ j) (h2 : j < 31) : (row (T x j)).setIfInBounds j (.int .u8 255) = row (T x (j + 1)) := by
  rw [← T_set x j h1 h2, ← row_set]; rfl
theorem rowT_last (x : UInt8) : (row (T x 31)).setIfInBounds 31 (.int .u8 127) = row (Y x ffs 127) := by
  have : (T x 31).set 31 127 = Y x ffs 127 := rfl
  rw [← this, ← row_set]; rfl

theorem first_row (x k : UInt8) (h : ((255 : Int) - (k.toNat : Int)) = (x.toNat : Int)) : (#[Value.int .u8 (255 - (k.toNat : Int)), .int .u8 0, .int .u8 0, .int .u8 0, .int .u8 0, .int .u8 0, .int .u8 0, .int .u8 0, .int .u8 0, .int .u8 0, .int .u8 0, .int .u8 0, .int .u8 0, .int .u8 0, .int .u8 0, .int .u8 0, .int .u8 0, .int .u8 0, .int .u8 0, .int .u8 0, .int .u8 0, .int .u8 0, .int .u8 0, .int .u8 0, .int .u8 0, .int .u8 0, .int .u8 0, .int .u8 0, .int .u8 0, .int .u8 0, .int .u8 0, .int .u8 0] : Array Value) = row (T x 1) := by
  rw [h]; rfl
theorem low_row (x : UInt8) : (#[Value.int .u8 (x.toNat : Int), .int .u8 0, .int .u8 0, .int .u8 0, .int .u8 0, .int .u8 0, .int .u8 0, .int .u8 0, .int .u8 0, .int .u8 0, .int .u8 0, .int .u8 0, .int .u8 0, .int .u8 0, .int .u8 0, .int .u8 0, .int .u8 0, .int .u8 0, .int .u8 0, .int .u8 0, .int .u8 0, .int .u8 0, .int .u8 0, .int .u8 0, .int .u8 0, .int .u8 0, .int .u8 0, .int .u8 0, .int .u8 0, .int .u8 0, .int .u8 0, .int .u8 0] : Array Value) = row (Y x zeros 0) := rfl
theorem low_row_sign (x : UInt8) : (#[Value.int .u8 (x.toNat : Int), .int .u8 0, .int .u8 0, .int .u8 0, .int .u8 0, .int .u8 0, .int .u8 0, .int .u8 0, .int .u8 0, .int .u8 0, .int .u8 0, .int .u8 0, .int .u8 0, .int .u8 0, .int .u8 0, .int .u8 0, .int .u8 0, .int .u8 0, .int .u8 0, .int .u8 0, .int .u8 0, .int .u8 0, .int .u8 0, .int .u8 0, .int .u8 0, .int .u8 0, .int .u8 0, .int .u8 0, .int .u8 0, .int .u8 0, .int .u8 0, .int .u8 128] : Array Value) = row (Y x zeros 128) := rfl
theorem ne236 (x k : UInt8) (h : ((255 : Int) - (k.toNat : Int)) = (x.toNat : Int)) : (x == 236) = decide ((k.toNat : Int) = 19) := by
  rw [Bool.eq_iff_iff, beq_iff_eq, decide_eq_true_eq, ← UInt8.toNat_inj]
  show x.toNat = 236 ↔ _
  omega

set_option maxRecDepth 10000 in
set_option maxHeartbeats 1600000 in
theorem endsTop (k : UInt8) (sign : Bool) (w : World) :
    Calls Trym.prog 5 #[.int .u8 (k.toNat : Int), .bool true, .bool sign] w fun e w' => e = .returned (.bool true) ∧ Below w.heap.size w w' := by
  have hk : k.toNat < 256 := k.toNat_lt
  obtain ⟨x, hx⟩ : ∃ x : UInt8, ((255 : Int) - (k.toNat : Int)) = (x.toNat : Int) := ⟨UInt8.ofNat (255 - k.toNat), by simp only [UInt8.toNat_ofNat']; omega⟩
  have HX : Hid (((255 : Int) - (k.toNat : Int)) = (x.toNat : Int)) := hx
  have HD : Hid (decide ((237 : Int) ≤ (x.toNat : Int)) = decide ((k.toNat : Int) < 19)) := by
    show _ = _
    rw [Bool.eq_iff_iff]; simp only [decide_eq_true_eq]; omega
  have HE : Hid ((x == 236) = decide ((k.toNat : Int) = 19)) := ne236 x k hx
  clear hx
  cases sign
  · go_enter Trym.func5, Trym.ntmps5
    go_wp2
    go_loopw [8] (fun i wr => ∃ j : Nat, 1 ≤ j ∧ j ≤ 31 ∧ i = .int .i64 j ∧ wr = w.alloc (.cells (row (T x j)) 22)) (fun i _ => 31 - (intOf i).toNat)
    case atStart => exact ⟨1, by omega, by omega, rfl, congrArg (fun c => w.alloc (.cells c 22)) (first_row x k HX.out)⟩
    case round =>
      obtain ⟨j, hj1, hj2, rfl, rfl⟩ := hrel
      obtain ⟨v, hv⟩ : ∃ v, (row (T x j))[j]? = some v := ⟨_, row_at (T x j) j (by rw [T_len x j hj1 hj2]; omega)⟩
      by_cases hjl : j < 31
      · have hst := rowT_set x j hj1 hjl
        go_wp2
        go_roundw
        case rel => exact ⟨j + 1, by omega, by omega, by go_num, rfl⟩
        case measure => simp [intOf]; omega
      · obtain rfl : j = 31 := by omega
        have hst := rowT_last x
        go_wp2_with fail
        refine (top_plain w.heap.size x _ (heap_alloc_new w _)).mono ?_
        rintro e w' ⟨he, hb⟩
        rw [HD.out] at he
        have HB : Hid (Below w.heap.size w w') := ((Below.refl _ _).alloc (Nat.le_refl _) _).trans (hb.mono (by simp))
        clear hb hst hv
        by_cases h1 : (k.toNat : Int) < 19
        · rw [decide_eq_true h1] at he
          subst he
          go_wp2
          go_ret
          exact ⟨rfl, HB.out⟩
        · rw [decide_eq_false h1] at he
          subst he
          by_cases h2 : (k.toNat : Int) ≤ 19
          · go_wp2
            go_ret
            exact ⟨rfl, HB.out⟩
          · go_wp2
            go_ret
            exact ⟨rfl, HB.out⟩
  · have hor : bits BinOp.or IntKind.u8 127 128 = 255 := by kernel_rfl
    have h31 : (row (Y x ffs 127))[31]? = some (.int .u8 127) := at31 x 127 ffs rfl
    have hs31 : (row (Y x ffs 127)).setIfInBounds 31 (.int .u8 255) = row (Y x ffs 255) := set31 x 127 255 ffs rfl
    go_enter Trym.func5, Trym.ntmps5
    go_wp2
    go_loopw [8] (fun i wr => ∃ j : Nat, 1 ≤ j ∧ j ≤ 31 ∧ i = .int .i64 j ∧ wr = w.alloc (.cells (row (T x j)) 22)) (fun i _ => 31 - (intOf i).toNat)
    case atStart => exact ⟨1, by omega, by omega, rfl, congrArg (fun c => w.alloc (.cells c 22)) (first_row x k HX.out)⟩
    case round =>
      obtain ⟨j, hj1, hj2, rfl, rfl⟩ := hrel
      obtain ⟨v, hv⟩ : ∃ v, (row (T x j))[j]? = some v := ⟨_, row_at (T x j) j (by rw [T_len x j hj1 hj2]; omega)⟩
      by_cases hjl : j < 31
      · have hst := rowT_set x j hj1 hjl
        go_wp2
        go_roundw
        case rel => exact ⟨j + 1, by omega, by omega, by go_num, rfl⟩
        case measure => simp [intOf]; omega
      · obtain rfl : j = 31 := by omega
        have hst := rowT_last x
        go_wp2_with fail
        refine (top_sign w.heap.size x _ (heap_alloc_new w _)).mono ?_
        rintro e w' ⟨he, hb⟩
        rw [HD.out, HE.out] at he
        have HB : Hid (Below w.heap.size w w') := ((Below.refl _ _).alloc (Nat.le_refl _) _).trans (hb.mono (by simp))
        clear hb hst hv hor h31 hs31
        by_cases h1 : (k.toNat : Int) < 19
        · rw [decide_eq_true h1] at he
          subst he
          go_wp2
          go_ret
          exact ⟨rfl, HB.out⟩
        · rw [decide_eq_false h1] at he
          by_cases h2 : (k.toNat : Int) ≤ 19
          · rw [decide_eq_true (by omega : (k.toNat : Int) = 19)] at he
            subst he
            go_wp2
            go_ret
            exact ⟨rfl, HB.out⟩
          · rw [decide_eq_false (by omega : ¬ (k.toNat : Int) = 19)] at he
            subst he
            go_wp2
            go_ret
            exact ⟨rfl, HB.out⟩
theorem is1 (k : UInt8) : (k == 1) = decide ((k.toNat : Int) = 1) := by
  rw [Bool.eq_iff_iff, beq_iff_eq, decide_eq_true_eq, ← UInt8.toNat_inj]
  show k.toNat = 1 ↔ _
  omega

set_option maxRecDepth 10000 in
set_option maxHeartbeats 1600000 in
theorem endsLow (k : UInt8) (sign : Bool) (w : World) :
    Calls Trym.prog 5 #[.int .u8 (k.toNat : Int), .bool false, .bool sign] w fun e w' => e = .returned (.bool true) ∧ Below w.heap.size w w' := by
  have hk : k.toNat < 256 := k.toNat_lt
  cases sign
  · go_enter Trym.func5, Trym.ntmps5
    go_wp2_with fail
    rw [low_row k]
    refine (low_plain w.heap.size k _ (heap_alloc_new w _)).mono ?_
    rintro e w' ⟨rfl, hb⟩
    have HB : Hid (Below w.heap.size w w') := ((Below.refl _ _).alloc (Nat.le_refl _) _).trans (hb.mono (by simp))
    clear hb
    by_cases h1 : ((k.toNat : Int) == 1) = true
    · go_wp2
      go_ret
      exact ⟨rfl, HB.out⟩
    · rw [Bool.not_eq_true] at h1
      go_wp2
      go_ret
      exact ⟨rfl, HB.out⟩
  · have hor : bits BinOp.or IntKind.u8 0 128 = 128 := by kernel_rfl
    go_enter Trym.func5, Trym.ntmps5
    go_wp2_with fail
    rw [low_row_sign k]
    refine (low_sign w.heap.size k _ (heap_alloc_new w _)).mono ?_
    rintro e w' ⟨he, hb⟩
    have HB : Hid (Below w.heap.size w w') := ((Below.refl _ _).alloc (Nat.le_refl _) _).trans (hb.mono (by simp))
    clear hb hor
    rw [is1] at he
    by_cases h1 : (k.toNat : Int) = 1
    · rw [decide_eq_true h1] at he
      subst he
      have h2 : ((k.toNat : Int) == 1) = true := by simpa using h1
      clear h1
      go_wp2
      go_ret
      exact ⟨rfl, HB.out⟩
    · rw [decide_eq_false h1] at he
      subst he
      have h2 : ((k.toNat : Int) == 1) = false := by simpa using h1
      clear h1
      go_wp2
      go_ret
      exact ⟨rfl, HB.out⟩

theorem byte_of (a : Int) (h : (Lit.int .u8 a).wf = true) : ∃ c : UInt8, a = (c.toNat : Int) := by
  have hb : 0 ≤ a ∧ a ≤ 255 := by
    simp [Lit.wf, show IntKind.u8.min = 0 from rfl, show IntKind.u8.max = 255 from rfl] at h
    omega
  refine ⟨UInt8.ofNat a.toNat, ?_⟩
  have : a.toNat < 256 := by omega
  simp only [UInt8.toNat_ofNat']
  omega
theorem endsWalk (a : Int) (top sign : Bool) (ha : (Lit.int .u8 a).wf = true) (w : World) :
    Calls Trym.prog 5 #[.int .u8 a, .bool top, .bool sign] w fun e w' => e = .returned (.bool true) ∧ Below w.heap.size w w' := by
  obtain ⟨k, rfl⟩ := byte_of a ha
  cases top
  · exact endsLow k sign w
  · exact endsTop k sign w
end Go.Proofs.Qxb6001384aMods
