import Derived.Test.Qxb6001384aModsRows
import Derived.WalkKit
import Derived.WalkSpells
import Derived.WalkLawsBesides
import Derived.Deep.WholeRow
import Derived.Stop.BytesEq
namespace Go.Proofs.Qxb6001384aMods
open Go.RowKit

theorem info22 : (Trym.prog.info? 22).map (·.size) = some 32 := by kernel_rfl

/-- The cell that holds the byte c. -/
def cell (c : UInt8) : Value := .int .u8 (Int.ofNat c.toNat)
/-- The cells that hold the bytes l. -/
def row (l : List UInt8) : Array Value := (l.map cell).toArray
/-- 32 bytes: the first, thirty, the last. -/
def Y (x : UInt8) (m : List UInt8) (t : UInt8) : List UInt8 := x :: (m ++ [t])

theorem row_size (l : List UInt8) : (row l).size = l.length := by simp [row]
theorem row_at (l : List UInt8) (i : Nat) (h : i < l.length) : (row l)[i]? = some (.int .u8 ((l[i]).toNat : Int)) := by
  simp [row, h, cell]
theorem row_set (l : List UInt8) (i : Nat) (c : UInt8) : (row l).setIfInBounds i (.int .u8 (c.toNat : Int)) = row (l.set i c) := by
  unfold row
  rw [List.map_set]
  simp [cell]
theorem row_one (l : List UInt8) : (row l).all (·.oneCell') = true := by
  unfold row
  rw [List.all_toArray, List.all_map]
  simp [cell, Value.oneCell']
theorem Y_len (x t : UInt8) (m : List UInt8) (hm : m.length = 30) : (Y x m t).length = 32 := by simp [Y, hm]

/-- A whole array into the block that was made last. -/
theorem wpList_store_new {P : Program} {ops : Array Oper} {rest : List Oper} {o : Oper} {a : Act} {Q : Exit → Act → World → Prop} (w : World) (hgd : o.guard = none) (ty : TypeId) (x y : Operand) (ho : o.op = .store ty x y)
    (c cells : Array Value) (t : TypeId) (g : Nat) (hg : g = w.heap.size) (hx : a.eval x = .pointer (some ⟨g, 0, none⟩)) (hy : a.eval y = .agg cells) (hi : (P.info? ty).map (·.size) = some cells.size) (hold : c.size = cells.size) (h1 : cells.all (·.oneCell') = true)
    (h : wpList P ops Q rest (a.put o.dst undef) (w.alloc (.cells cells t))) : wpList P ops Q (o :: rest) a (w.alloc (.cells c t)) := by
  subst hg
  refine wpList_store_row hgd ty x y ho w.heap.size cells hx hy t c (heap_alloc_last w _) hi hold h1 ?_
  rw [World.setRow_alloc_new]
  exact h
/-- An array literal. -/
theorem wpList_build_to {P : Program} {ops : Array Oper} {rest : List Oper} {o : Oper} {a : Act} {w : World} {Q : Exit → Act → World → Prop} (hg : o.guard = none) (t : TypeId) (parts : Array (Nat × Operand)) (ho : o.op = .build t parts)
    (C : Array Value) (hf : P.built t (parts.map fun (i, x) => (i, a.eval x)).toList = some C) (h : wpList P ops Q rest (a.put o.dst (.agg C)) w) : wpList P ops Q (o :: rest) a w :=
  wpList_build hg t parts ho (by rw [hf]; rfl) (by rw [hf]; exact h)

/-- The array [32]byte{1}. -/
def one : List UInt8 := 1 :: List.replicate 31 0
/-- The array minusOne when its loop stands at i = k. -/
def Z (k : Nat) : List UInt8 := 236 :: (List.replicate (k - 1) 255 ++ (List.replicate (31 - k) 0 ++ [127]))
theorem built_one : Trym.prog.built 22 [(0, .int .u8 1)] = some (row one) := by kernel_rfl
theorem built_Z : Trym.prog.built 22 [(0, .int .u8 236), (31, .int .u8 127)] = some (row (Z 1)) := by kernel_rfl
theorem parts_one (a : Act) : ((#[(0, Operand.const (.int .u8 1))] : Array (Nat × Operand)).map fun (i, x) => (i, a.eval x)).toList = [(0, .int .u8 1)] := by simp [Act.eval]
theorem parts_Z (a : Act) : ((#[(0, Operand.const (.int .u8 236)), (31, Operand.const (.int .u8 127))] : Array (Nat × Operand)).map fun (i, x) => (i, a.eval x)).toList = [(0, .int .u8 236), (31, .int .u8 127)] := by simp [Act.eval]
theorem one_len : one.length = 32 := rfl
theorem Z_len (k : Nat) (h1 : 1 ≤ k) (h2 : k ≤ 31) : (Z k).length = 32 := by simp [Z]; omega
theorem Z_all : ∀ k : Fin 31, 1 ≤ k.val → (Z k.val).set k.val 255 = Z (k.val + 1) := by decide
theorem Z_set (k : Nat) (h1 : 1 ≤ k) (h2 : k < 31) : (Z k).set k 255 = Z (k + 1) := Z_all ⟨k, h2⟩ h1
theorem rowZ_set (k : Nat) (h1 : 1 ≤ k) (h2 : k < 31) : (row (Z k)).setIfInBounds k (.int .u8 255) = row (Z (k + 1)) := by
  rw [← Z_set k h1 h2, ← row_set]; rfl
theorem row_info (l : List UInt8) (h : l.length = 32) : (Trym.prog.info? 22).map (·.size) = some (row l).size := by rw [info22, row_size, h]
theorem zeros_size (l : List UInt8) (h : l.length = 32) : (#[Value.int IntKind.u8 0, .int .u8 0, .int .u8 0, .int .u8 0, .int .u8 0, .int .u8 0, .int .u8 0, .int .u8 0, .int .u8 0, .int .u8 0, .int .u8 0, .int .u8 0, .int .u8 0, .int .u8 0, .int .u8 0, .int .u8 0, .int .u8 0, .int .u8 0, .int .u8 0, .int .u8 0, .int .u8 0, .int .u8 0, .int .u8 0, .int .u8 0, .int .u8 0, .int .u8 0, .int .u8 0, .int .u8 0, .int .u8 0, .int .u8 0, .int .u8 0, .int .u8 0] : Array Value).size = (row l).size := by
  rw [row_size, h]; rfl
theorem run_eq_rows (xs ys : List UInt8) (hx : xs.length = 32) (hy : ys.length = 32) (r : Bool) (h : (xs == ys) = r) (w : World) : (Op.equalIn 10000 22 (.agg (row xs)) (.agg (row ys))).run Trym.prog w = .ok r w := by
  have hsz : ∀ w, (sizeOf 5).run Trym.prog w = .ok 1 w := fun w => by kernel_rfl
  have hu : Trym.prog.underlying 22 = some (.array 32 5) := Trym.underlying22
  have e := run_equalIn_bytes w 9998 22 5 32 hu Trym.underlying5 hsz xs ys hx hy
  rw [h] at e
  exact e
/-- A whole array is loaded, under a guard that says yes. -/
theorem wpList_load_wanted {P : Program} {ops : Array Oper} {rest : List Oper} {o : Oper} {a : Act} {w : World} {Q : Exit → Act → World → Prop} (hw : Region.wanted o (yielded ops a.tmps) = true) (ty : TypeId) (x : Operand) (ho : o.op = .load ty x)
    (g : Nat) (hx : a.eval x = .pointer (some ⟨g, 0, none⟩)) (t : TypeId) (cs : Array Value) (fr : Nat × Nat) (d : TypeDesc) (hg : w.heap[g]? = some (.cells cs t fr))
    (hu : P.underlying ty = some d) (hd : (match d with | .struct _ | .array _ _ => true | _ => false) = true) (hi : (P.info? ty).map (·.size) = some cs.size)
    (h : wpList P ops Q rest (a.put o.dst (.agg cs)) w) : wpList P ops Q (o :: rest) a w :=
  wpList_step fun K hK => by
    rw [if_pos hw]
    exact wp_load_row ty x ho g hx t cs fr d hg hu hd hi (hK _ _ h)

theorem heap3 (w : World) (A B C : Obj) : (((w.alloc A).alloc B).alloc C).heap[w.heap.size]? = some A ∧ (((w.alloc A).alloc B).alloc C).heap[w.heap.size + 1]? = some B ∧ (((w.alloc A).alloc B).alloc C).heap[w.heap.size + 1 + 1]? = some C := by
  refine ⟨?_, ?_, ?_⟩
  · rw [Below.heap_alloc _ _ _ (by simp; omega)]; exact heap_alloc2_old w A B
  · rw [Below.heap_alloc _ _ _ (by simp)]; exact heap_alloc2_new w A B
  · have := heap_alloc_new ((w.alloc A).alloc B) C
    simpa using this
end Go.Proofs.Qxb6001384aMods
