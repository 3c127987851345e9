import Derived.Test.Qxb6001384aModsBase
namespace Go.Proofs.Qxb6001384aMods
open Go.RowKit
set_option linter.unusedVariables false

set_option maxRecDepth 10000 in
set_option maxHeartbeats 800000 in
theorem canonB (b : Nat) (x : UInt8) (l d : List UInt8) (w : World) (hb : w.heap[b]? = some (.cells (row l) 22 (0, 0))) (hl : l.length = 32) (hd : d.length = 32)
    (h31 : (row l)[31]? = some (.int .u8 255)) (hset : (row l).setIfInBounds 31 (.int .u8 127) = row d) (d31 : (row d)[31]? = some (.int .u8 127)) (d0 : (row d)[0]? = some (.int .u8 (x.toNat : Int)))
    (dm : ∀ j, j < 30 → (row d)[1 + j]? = some (.int .u8 255)) (r : Bool) (ho : (d == one) = false) (hz : (d == Z 31) = r) :
    Calls Trym.prog 8 #[.slice (some ⟨b, 0, none⟩) 32 32] w fun e w' => e = .returned (.bool (!decide ((237 : Int) ≤ (x.toNat : Int)) && !r)) ∧ Below w.heap.size w w' := by
  have hap : ∀ wx : World, (Instr.arrayAt 22 (.slice (some ⟨b, 0, none⟩) 32 32)).run Trym.prog wx = .ok (.pointer (some ⟨b, 0, none⟩)) wx := fun _ => by kernel_rfl
  have hand : bits BinOp.and IntKind.u8 255 127 = 127 := by kernel_rfl
  have HSZ : Hid ((Trym.prog.info? 22).map (·.size) = some (row l).size) := row_info l hl
  by_cases hx : (237 : Int) ≤ (x.toNat : Int)
  · rw [decide_eq_true hx, Bool.not_true, Bool.false_and]
    go_enter Trym.func8, Trym.ntmps8
    go_wp2_with (first | (refine wpList_load_row rfl 22 (.tmp 12) rfl b rfl 22 (row l) (0, 0) _ hb Trym.underlying22 rfl HSZ.out ?_) | (refine wpList_store_new w rfl 22 (.tmp 3) (.tmp 13) rfl _ (row l) 22 _ rfl rfl rfl HSZ.out (zeros_size l hl) (row_one l) ?_))
    go_loop [5, 31] (fun h i => ∃ k : Nat, k ≤ 30 ∧ i = .int .i64 k ∧ h = .bool true) (fun _ i => 30 - (intOf i).toNat)
    case atStart => exact ⟨0, by omega, rfl, rfl⟩
    case round =>
      obtain ⟨k, hk, rfl, rfl⟩ := hrel
      by_cases hlt : k < 30
      · have hdk := dm k hlt
        go_wp2
        go_round
        case rel => exact ⟨k + 1, by omega, by go_num, rfl⟩
        case measure => simp [intOf]; omega
      · go_wp2
        go_ret
        exact ⟨rfl, (Below.refl _ _).alloc (Nat.le_refl _) _⟩
  · rw [decide_eq_false hx, Bool.not_false, Bool.true_and]
    go_enter Trym.func8, Trym.ntmps8
    go_wp2_with (first | (refine wpList_load_row rfl 22 (.tmp 12) rfl b rfl 22 (row l) (0, 0) _ hb Trym.underlying22 rfl HSZ.out ?_) | (refine wpList_store_new w rfl 22 (.tmp 3) (.tmp 13) rfl _ (row l) 22 _ rfl rfl rfl HSZ.out (zeros_size l hl) (row_one l) ?_))
    go_loop [5, 31] (fun h i => ∃ k : Nat, k ≤ 30 ∧ i = .int .i64 k ∧ h = .bool false) (fun _ i => 30 - (intOf i).toNat)
    case atStart => exact ⟨0, by omega, rfl, rfl⟩
    case round =>
      obtain ⟨k, hk, rfl, rfl⟩ := hrel
      by_cases hlt : k < 30
      · have hdk := dm k hlt
        go_wp2
        go_round
        case rel => exact ⟨k + 1, by omega, by go_num, rfl⟩
        case measure => simp [intOf]; omega
      · clear dm d31 d0 h31 hset hap hand HSZ
        go_wp2_with (first | (refine wpList_build_to rfl 22 #[(0, Operand.const (.int .u8 1))] rfl (row one) ((congrArg (Trym.prog.built 22) (parts_one _)).trans built_one) ?_) | (refine wpList_build_to rfl 22 #[(0, Operand.const (.int .u8 236)), (31, Operand.const (.int .u8 127))] rfl (row (Z 1)) ((congrArg (Trym.prog.built 22) (parts_Z _)).trans built_Z) ?_) | (refine wpList_store_new (w.alloc (.cells (row d) 22)) rfl 22 (.tmp 8) (.tmp 42) rfl _ (row one) 22 _ (by simp) rfl rfl (row_info one one_len) (zeros_size one one_len) (row_one one) ?_) | (refine wpList_store_new ((w.alloc (.cells (row d) 22)).alloc (.cells (row one) 22)) rfl 22 (.tmp 9) (.tmp 43) rfl _ (row (Z 1)) 22 _ (by simp) rfl rfl (row_info (Z 1) rfl) (zeros_size (Z 1) rfl) (row_one (Z 1)) ?_))
        go_loopw [10] (fun i wr => ∃ j : Nat, 1 ≤ j ∧ j ≤ 31 ∧ i = .int .i64 j ∧ wr = ((w.alloc (.cells (row d) 22)).alloc (.cells (row one) 22)).alloc (.cells (row (Z j)) 22)) (fun i _ => 31 - (intOf i).toNat)
        case atStart => exact ⟨1, by omega, by omega, rfl, rfl⟩
        case round =>
          obtain ⟨j, hj1, hj2, rfl, rfl⟩ := hrel
          by_cases hjl : j < 31
          · have hst := rowZ_set j hj1 hjl
            obtain ⟨v, hv⟩ : ∃ v, (row (Z j))[j]? = some v := ⟨_, row_at (Z j) j (by rw [Z_len j hj1 hj2]; omega)⟩
            go_wp2
            go_roundw
            case rel => exact ⟨j + 1, by omega, by omega, by go_num, rfl⟩
            case measure => simp [intOf]; omega
          · obtain rfl : j = 31 := by omega
            have h3 := heap3 w (.cells (row d) 22) (.cells (row one) 22) (.cells (row (Z 31)) 22)
            obtain ⟨hg3, hg8, hg9⟩ := h3
            have HG3 : Hid ((((w.alloc (.cells (row d) 22)).alloc (.cells (row one) 22)).alloc (.cells (row (Z 31)) 22)).heap[w.heap.size]? = some (.cells (row d) 22 (0, 0))) := hg3
            have HG8 : Hid ((((w.alloc (.cells (row d) 22)).alloc (.cells (row one) 22)).alloc (.cells (row (Z 31)) 22)).heap[w.heap.size + 1]? = some (.cells (row one) 22 (0, 0))) := hg8
            have HG9 : Hid ((((w.alloc (.cells (row d) 22)).alloc (.cells (row one) 22)).alloc (.cells (row (Z 31)) 22)).heap[w.heap.size + 1 + 1]? = some (.cells (row (Z 31)) 22 (0, 0))) := hg9
            clear hg3 hg8 hg9 hb
            have he1 := run_eq_rows d one hd one_len _ ho
            have he2 := run_eq_rows d (Z 31) hd rfl _ hz
            clear ho hz
            go_wp2_with (first | (refine wpList_load_wanted rfl 22 (.tmp 3) rfl w.heap.size rfl 22 (row d) (0, 0) _ HG3.out Trym.underlying22 rfl (row_info d hd) ?_) | (refine wpList_load_wanted rfl 22 (.tmp 8) rfl (w.heap.size + 1) rfl 22 (row one) (0, 0) _ HG8.out Trym.underlying22 rfl (row_info one one_len) ?_) | (refine wpList_load_wanted rfl 22 (.tmp 9) rfl (w.heap.size + 1 + 1) rfl 22 (row (Z 31)) (0, 0) _ HG9.out Trym.underlying22 rfl (row_info (Z 31) rfl) ?_))
            go_ret
            exact ⟨rfl, (((Below.refl _ _).alloc (Nat.le_refl _) _).alloc (by simp) _).alloc (by simp; omega) _⟩
end Go.Proofs.Qxb6001384aMods
