import Derived.Test.Qxb6001772aModsWalks
namespace Go.Proofs.Qxb6001772aMods
open Go.RowKit

/-- The cells from k on hold the digits l. -/
def DigL (C : Array Value) (k : Nat) (l : List UInt8) : Prop := l.length + k = 20 ∧ l.all Pl.isDigB = true ∧ ∀ j (h : j < l.length), C[k + j]? = some (.int .u8 ((l[j]).toNat : Int))

def dig (M : Nat) : UInt8 := UInt8.ofNat (48 + M % 10)
theorem dig_nat (M : Nat) : (dig M).toNat = 48 + M % 10 := by
  unfold dig
  simp only [UInt8.toNat_ofNat']
  omega
theorem dig_is (M : Nat) : Pl.isDigB (dig M) = true := by
  unfold Pl.isDigB
  rw [dig_nat, decide_eq_true (by omega), decide_eq_true (by omega)]; rfl
theorem dig_int (M : Nat) : (48 + (M : Int) % 10) = ((dig M).toNat : Int) := by
  rw [dig_nat]; omega

theorem digL_step {C : Array Value} {q M : Nat} {l : List UInt8} (hq : q ≤ 19) (hC : C.size = 20) (h : DigL C (q + 1) l) :
    DigL (C.setIfInBounds q (.int .u8 (48 + (M : Int) % 10))) q (dig M :: l) := by
  obtain ⟨h1, h2, h3⟩ := h
  refine ⟨by simp; omega, by simp [dig_is, h2], ?_⟩
  intro j hj
  rw [dig_int]
  match j, hj with
  | 0, _ =>
    rw [Nat.add_zero, Array.getElem?_setIfInBounds_self_of_lt (by omega)]
    rfl
  | j + 1, hj =>
    have hj' : j < l.length := by simpa using hj
    rw [Array.getElem?_setIfInBounds_ne (by omega)]
    have := h3 j hj'
    rw [show q + (j + 1) = q + 1 + j by omega, this]
    simp

theorem pow_step {q M : Nat} (h : M < 10 ^ (q + 1)) : M / 10 < 10 ^ q := by
  rw [Nat.pow_succ] at h
  omega
theorem pow_pos {q M : Nat} (h : M < 10 ^ q) (hM : M ≠ 0) : 1 ≤ q := by
  cases q with
  | zero => simp at h; omega
  | succ q => omega

theorem slice_run (w : World) (b q : Nat) (hq : q ≤ 19) :
    (Instr.sliceAt 27 (.pointer (some ⟨b, 0, none⟩)) (some (.int .i64 (q : Int))) none none).run Trym.prog w = .ok (.slice (some ⟨b, q, none⟩) (20 - q) (20 - q)) w := by
  have hl : Trym.prog.arrayLen 27 = 20 := by kernel_rfl
  have he : Trym.prog.elem 27 = 5 := by kernel_rfl
  have hu : Trym.prog.underlying 27 = some (.array (Trym.prog.arrayLen 27) (Trym.prog.elem 27)) := by rw [hl, he]; kernel_rfl
  have hs : (sizeOf 5).run Trym.prog w = .ok 1 w := by kernel_rfl
  rw [run_sliceAt_array_l w 27 ⟨b, 0, none⟩ hu .i64 q (by omega) (by rw [hl]; omega), he, hs, hl]
  simp only [Result.andThen, slicedAt, Int.toNat_natCast, Nat.mul_one]
  rw [if_neg (by omega)]
  simp [Addr.add]
  omega

theorem conv_back (w : World) (C : Array Value) (q : Nat) (l : List UInt8) (h : DigL C q l) :
    (convert 26 9 (.slice (some ⟨w.heap.size, q, none⟩) (20 - q) (20 - q))).run Trym.prog (w.alloc (.cells C 27)) = .ok (.string ⟨l.toArray⟩) (w.alloc (.cells C 27)) := by
  have h1 : 20 - q = l.length := by have := h.1; omega
  rw [h1]
  exact run_convert_bytes_back (P := Trym.prog) (w.alloc (.cells C 27)) 26 9 5 ⟨w.heap.size, q, none⟩ l.length l Trym.underlying26 Trym.underlying5 Trym.underlying9 (by
    intro j hj
    have := h.2.2 j hj
    have e : (⟨w.heap.size, q, none⟩ : Addr).add j = ⟨w.heap.size, q + j, none⟩ := by simp [Addr.add]
    rw [e]
    simpa using this)

theorem start_digits : DigL #[Value.int .u8 0, .int .u8 0, .int .u8 0, .int .u8 0, .int .u8 0, .int .u8 0, .int .u8 0, .int .u8 0, .int .u8 0, .int .u8 0, .int .u8 0, .int .u8 0, .int .u8 0, .int .u8 0, .int .u8 0, .int .u8 0, .int .u8 0, .int .u8 0, .int .u8 0, .int .u8 0] (19 + 1) [] :=
  ⟨rfl, rfl, fun j h => absurd h (by simp)⟩

theorem dec_size {C : Array Value} {q : Nat} {l : List UInt8} (h : DigL C q l) : (⟨l.toArray⟩ : ByteArray).size ≤ 20 := by
  have := h.1
  show l.toArray.size ≤ 20
  simp; omega
theorem dec_is {C : Array Value} {q : Nat} {c : UInt8} {l : List UInt8} (h : DigL C q (c :: l)) : Pl.Dec (⟨(c :: l).toArray⟩ : ByteArray).data.toList := by
  refine ⟨by simp, ?_⟩
  have := h.2.1
  simpa using this

set_option maxHeartbeats 400000 in
theorem dec_pos (n : Int) (h0 : 0 ≤ n) (h1 : n ≤ 9223372036854775807) (w : World) :
    Calls Trym.prog 6 #[.int .i64 n] w fun e w' => ∃ r : ByteArray, e = .returned (.string r) ∧ Pl.IsDec r.data.toList ∧ r.size ≤ 21 ∧ Below w.heap.size w w' := by
  have hn : ¬ n < 0 := by omega
  go_enter Trym.func6, Trym.ntmps6
  go_wp2
  go_loopw [4, 5] (fun i m wr => ∃ (q M : Nat) (C : Array Value) (l : List UInt8), q ≤ 19 ∧ i = .int .i64 ((q : Int) + 1) ∧ m = .int .u64 M ∧ M ≤ 9223372036854775808 ∧ Hid (M < 10 ^ (q + 1)) ∧ wr = w.alloc (.cells C 27) ∧ Hid (C.size = 20) ∧ Hid (DigL C (q + 1) l)) (fun i _ _ => (intOf i).toNat)
  case atStart =>
    refine ⟨19, n.toNat, _, [], Nat.le_refl _, rfl, ?_, by omega, ?_, rfl, rfl, start_digits⟩
    · rw [Int.toNat_of_nonneg h0]
    · show n.toNat < 10 ^ 20
      omega
  case round =>
    obtain ⟨q, M, C, l, hq, rfl, rfl, hM, HP, rfl, HC, HD⟩ := hrel
    have hcell : ∃ v, (w.alloc (.cells C 27)).cell? ⟨w.heap.size, q, none⟩ = some v := by
      have : q < C.size := by have := HC.out; omega
      exact ⟨C[q], by simp [this]⟩
    obtain ⟨v, hcell⟩ := hcell
    have HN : Hid (DigL (C.setIfInBounds q (.int .u8 (48 + (M : Int) % 10))) q (dig M :: l)) := digL_step hq HC.out HD.out
    have HQ : Hid (M / 10 < 10 ^ q) := pow_step HP.out
    by_cases hm : M < 10
    · have hsl := fun wx => slice_run wx w.heap.size q hq
      have hcv := conv_back w _ q _ HN.out
      go_wp2
      go_ret
      exact ⟨_, rfl, Or.inl (dec_is HN.out), by have := dec_size HN.out; omega, (Below.refl _ _).alloc (Nat.le_refl _) _⟩
    · have hq1 : 1 ≤ q := pow_pos HQ.out (by omega)
      go_wp2
      go_roundw
      case rel => exact ⟨q - 1, M / 10, _, _, by omega, by go_num, by go_num, by omega, by rw [show q - 1 + 1 = q by omega]; exact HQ, rfl, by show Array.size _ = 20; rw [Array.size_setIfInBounds]; exact HC, by rw [show q - 1 + 1 = q by omega]; exact HN⟩
      case measure => simp [intOf]

theorem wrap_neg (n : Int) (h0 : n < 0) (h1 : -9223372036854775808 ≤ n) : IntKind.u64.wrap (-IntKind.u64.wrap n) = ((-n).toNat : Int) := by
  have e : ∀ x : Int, IntKind.u64.wrap x = x % 18446744073709551616 := fun x => by simp [IntKind.wrap_u64]
  rw [e, e]
  omega

theorem minus_size (r : ByteArray) (h : r.size ≤ 20) : (⟨#[45]⟩ ++ r : ByteArray).size ≤ 21 := by
  rw [ByteArray.size_append]
  show 1 + r.size ≤ 21
  omega
theorem minus_list (r : ByteArray) : (⟨#[45]⟩ ++ r : ByteArray).data.toList = 45 :: r.data.toList := by
  rw [ByteArray.data_append]; simp

set_option maxHeartbeats 400000 in
theorem dec_neg (n : Int) (h0 : n < 0) (h1 : -9223372036854775808 ≤ n) (w : World) :
    Calls Trym.prog 6 #[.int .i64 n] w fun e w' => ∃ r : ByteArray, e = .returned (.string r) ∧ Pl.IsDec r.data.toList ∧ r.size ≤ 21 ∧ Below w.heap.size w w' := by
  have HW : Hid (IntKind.u64.wrap (-IntKind.u64.wrap n) = ((-n).toNat : Int)) := wrap_neg n h0 h1
  go_enter Trym.func6, Trym.ntmps6
  go_wp2
  go_loopw [4, 5] (fun i m wr => ∃ (q M : Nat) (C : Array Value) (l : List UInt8), q ≤ 19 ∧ i = .int .i64 ((q : Int) + 1) ∧ m = .int .u64 M ∧ M ≤ 9223372036854775808 ∧ Hid (M < 10 ^ (q + 1)) ∧ wr = w.alloc (.cells C 27) ∧ Hid (C.size = 20) ∧ Hid (DigL C (q + 1) l)) (fun i _ _ => (intOf i).toNat)
  case atStart =>
    refine ⟨19, (-n).toNat, _, [], Nat.le_refl _, rfl, ?_, by omega, ?_, rfl, rfl, start_digits⟩
    · rw [HW.out]
    · show (-n).toNat < 10 ^ 20
      omega
  case round =>
    obtain ⟨q, M, C, l, hq, rfl, rfl, hM, HP, rfl, HC, HD⟩ := hrel
    have hcell : ∃ v, (w.alloc (.cells C 27)).cell? ⟨w.heap.size, q, none⟩ = some v := by
      have : q < C.size := by have := HC.out; omega
      exact ⟨C[q], by simp [this]⟩
    obtain ⟨v, hcell⟩ := hcell
    have HN : Hid (DigL (C.setIfInBounds q (.int .u8 (48 + (M : Int) % 10))) q (dig M :: l)) := digL_step hq HC.out HD.out
    have HQ : Hid (M / 10 < 10 ^ q) := pow_step HP.out
    by_cases hm : M < 10
    · have hsl := fun wx => slice_run wx w.heap.size q hq
      have hcv := conv_back w _ q _ HN.out
      have hz := dec_size HN.out
      have hdc := dec_is HN.out
      generalize (⟨(dig M :: l).toArray⟩ : ByteArray) = r at hcv hz hdc
      have HDC : Hid (Pl.Dec r.data.toList) := hdc
      clear hdc
      go_wp2
      go_ret
      exact ⟨_, rfl, Or.inr ⟨_, minus_list _, HDC.out⟩, minus_size _ hz, (Below.refl _ _).alloc (Nat.le_refl _) _⟩
    · have hq1 : 1 ≤ q := pow_pos HQ.out (by omega)
      go_wp2
      go_roundw
      case rel => exact ⟨q - 1, M / 10, _, _, by omega, by go_num, by go_num, by omega, by rw [show q - 1 + 1 = q by omega]; exact HQ, rfl, by show Array.size _ = 20; rw [Array.size_setIfInBounds]; exact HC, by rw [show q - 1 + 1 = q by omega]; exact HN⟩
      case measure => simp [intOf]

theorem dec_any (n : Int) (h : (Lit.int .i64 n).wf = true) (w : World) :
    Calls Trym.prog 6 #[.int .i64 n] w fun e w' => ∃ r : ByteArray, e = .returned (.string r) ∧ Pl.IsDec r.data.toList ∧ r.size ≤ 21 ∧ Below w.heap.size w w' := by
  have hb : -9223372036854775808 ≤ n ∧ n ≤ 9223372036854775807 := by
    simp [Lit.wf, show IntKind.i64.min = -9223372036854775808 from rfl, show IntKind.i64.max = 9223372036854775807 from rfl] at h
    exact h
  by_cases h0 : n < 0
  · exact dec_neg n h0 hb.1 w
  · exact dec_pos n (by omega) hb.2 w

theorem add3_list (r e : ByteArray) : (⟨#[110, 117, 109, 98, 101, 114, 32]⟩ ++ r ++ e : ByteArray).data.toList = Pl.num ++ (r.data.toList ++ e.data.toList) := by
  rw [ByteArray.data_append, ByteArray.data_append]; simp [Pl.num]
theorem add2_list (r : ByteArray) : (⟨#[110, 117, 109, 98, 101, 114, 32]⟩ ++ r : ByteArray).data.toList = Pl.num ++ (r.data.toList ++ []) := by
  rw [ByteArray.data_append]; simp [Pl.num]
theorem add2_size (r : ByteArray) (h : r.size ≤ 21) : (⟨#[110, 117, 109, 98, 101, 114, 32]⟩ ++ r : ByteArray).size ≤ maxLen := by
  rw [ByteArray.size_append]
  show 7 + r.size ≤ maxLen
  unfold maxLen; omega
theorem add3_size (r : ByteArray) (a b : UInt8) (h : r.size ≤ 21) : (⟨#[110, 117, 109, 98, 101, 114, 32]⟩ ++ r ++ ⟨#[a, b]⟩ : ByteArray).size ≤ maxLen := by
  rw [ByteArray.size_append, ByteArray.size_append]
  show 7 + r.size + 2 ≤ maxLen
  unfold maxLen; omega

set_option maxHeartbeats 400000 in
theorem acceptsWalk (n : Int) (h : (Lit.int .i64 n).wf = true) (w : World) :
    Calls Trym.prog 3 #[.int .i64 n] w fun e w' => e = .returned (.bool true) ∧ Below w.heap.size w w' := by
  go_enter Trym.func3, Trym.ntmps3
  go_wp2_with fail
  refine (dec_any n h _).mono ?_
  rintro e w1 ⟨r, rfl, hd, hr, hb1⟩
  have H1 : Hid (Pl.isInt (⟨#[110, 117, 109, 98, 101, 114, 32]⟩ ++ r : ByteArray).data.toList = true) := by
    show _ = true; rw [add2_list, Pl.isInt_dec hd]; rfl
  have H2 : Hid (Pl.isInt (⟨#[110, 117, 109, 98, 101, 114, 32]⟩ ++ r ++ ⟨#[46, 53]⟩ : ByteArray).data.toList = false) := by
    show _ = false; rw [add3_list, Pl.isInt_dec hd]; rfl
  have H3 : Hid (Pl.isInt (⟨#[110, 117, 109, 98, 101, 114, 32]⟩ ++ r ++ ⟨#[101, 51]⟩ : ByteArray).data.toList = false) := by
    show _ = false; rw [add3_list, Pl.isInt_dec hd]; rfl
  have B1 : Hid (Below w.heap.size w w1) := hb1
  clear hb1 hd
  go_wp2_with fail
  refine (zzIsInteger_any _ (add2_size r hr) _).mono ?_
  rintro e w2 ⟨he, hb2⟩
  rw [H1.out] at he
  subst he
  have B2 : Hid (Below w.heap.size w w2) := B1.out.trans (hb2.mono B1.out.size)
  clear B1 hb2 H1
  go_wp2_with fail
  refine (zzIsInteger_any _ (add3_size r 46 53 hr) _).mono ?_
  rintro e w3 ⟨he, hb3⟩
  rw [H2.out] at he
  subst he
  have B3 : Hid (Below w.heap.size w w3) := B2.out.trans (hb3.mono B2.out.size)
  clear B2 hb3 H2
  go_wp2_with fail
  refine (zzIsInteger_any _ (add3_size r 101 51 hr) _).mono ?_
  rintro e w4 ⟨he, hb4⟩
  rw [H3.out] at he
  subst he
  have B4 : Hid (Below w.heap.size w w4) := B3.out.trans (hb4.mono B3.out.size)
  go_wp2
  go_ret
  exact ⟨rfl, B4.out⟩
end Go.Proofs.Qxb6001772aMods
