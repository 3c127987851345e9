import Derived.Test.Qxb6001281aModsWalks
import Derived.ProofKit
import Derived.SliceStrings
namespace Go.Proofs.Qxb6001281aMods
open Go.ChangeShapes Go.WideShapes Go.ChangeAt Go.RowKit

/-- A []string among the arguments, opened: its strings lie where its address says. -/
theorem open_row {H : Type} {enc : TypeId × Value → H} {w : World} {base fuel : Nat} {spare : Nat → Bool} {held : Bool} {a0 : Option Addr} {len0 cap0 : Nat} {x : DataW H × List MemPlace}
    (h : DataW.trod enc Trym.prog w base spare held fuel 22 (Value.slice a0 len0 cap0).cells.toList = some x) :
    ∃ ss : List ByteArray, ss.length = len0 ∧ len0 ≤ maxLen ∧ Row w a0 ss := by
  rcases open_strings Trym.underlying22 Trym.underlying9 Trym.cells9 h with ⟨hcs, _⟩ | ⟨a, l, c, ss, hcs, _, hl, hm, hz, _, hcell, _⟩
  · simp [Value.cells] at hcs
    obtain ⟨rfl, rfl, rfl⟩ := hcs
    exact ⟨[], rfl, Nat.zero_le _, fun i h => absurd h (by simp)⟩
  · simp [Value.cells] at hcs
    obtain ⟨rfl, rfl, rfl⟩ := hcs
    have hls : len0 ≤ ss.length := by rw [hz]; split <;> omega
    refine ⟨ss.take len0, by simp; omega, by omega, ?_⟩
    intro i hi
    have hi' : i < ss.length := by simp at hi; omega
    have hc := hcell i hi'
    obtain ⟨b, off, spot⟩ := a
    have hspot : spot = none := by simpa [Addr.add] using World.cell?_spot (hcell 0 (by omega))
    subst hspot
    have e : (⟨b, off, none⟩ : Addr).add i = ⟨b, off + i, none⟩ := by simp [Addr.add]
    rw [e] at hc
    refine ⟨b, off, rfl, World.block_lt_of_cell? w ⟨b, off + i, none⟩ hc, ?_⟩
    rw [hc]
    simp [List.getD, List.getElem?_eq_getElem hi']
end Go.Proofs.Qxb6001281aMods
