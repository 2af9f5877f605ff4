/-
  A SLICE OF STRINGS THAT CAME IN, OPENED: its list and its cells.
-/
import Derived.Test.YbulkblluModelWalk
import Derived.ProofKit
import Derived.SliceStrings
namespace Go.Proofs.Ybulkbllu
open Go.ChangeShapes Go.WideShapes Go.ChangeAt Go.RowKit

theorem own : ownKnob Yba.prog.godebug = none := by kernel_rfl
theorem laidOut : laidOutB Yba.prog = true := by kernel_rfl
theorem cells9 : Yba.prog.cellsOf 9 = 1 := by kernel_rfl

theorem row_of_trod {H : Type} {enc : TypeId × Value → H} {W : World} {a0 : Option Addr} {len cap : Nat} {d : DataW H} {p : List MemPlace}
    (h : DataW.Trod enc Yba.prog W 0 (fun _ => true) true 22 (.slice a0 len cap) d p) : ∃ l : List ByteArray, l.length = len ∧ len ≤ maxLen ∧ len ≤ cap ∧ Row W a0 l := by
  obtain ⟨fuel, hf⟩ := h
  rcases open_strings Yba.underlying22 Yba.underlying9 cells9 hf with ⟨hcs, hx⟩ | ⟨a, len', cap', ss, hcs, _, hl, hm, hz, hx, hcell, hws⟩
  · simp [Value.cells] at hcs
    obtain ⟨rfl, rfl, rfl⟩ := hcs
    exact ⟨[], rfl, Nat.zero_le _, Nat.zero_le _, Or.inl rfl⟩
  · simp [Value.cells] at hcs
    obtain ⟨rfl, rfl, rfl⟩ := hcs
    simp at hz
    refine ⟨ss.take len, by rw [List.length_take]; omega, Nat.le_trans hl hm, hl, ?_⟩
    by_cases h0 : len = 0
    · exact Or.inl (by rw [h0]; rfl)
    · obtain ⟨b, off, spot⟩ := a
      have hspot : spot = none := by simpa [Addr.add] using World.cell?_spot (hcell 0 (by omega))
      subst hspot
      refine Or.inr ⟨b, off, rfl, fun i hi => ?_⟩
      have hi2 : i < ss.length := by rw [List.length_take] at hi; omega
      rw [← Go.WideShapes.add_plain, hcell i hi2, List.getElem_take, List.getD_eq_getElem?_getD, List.getElem?_eq_getElem hi2]
      rfl
end Go.Proofs.Ybulkbllu
