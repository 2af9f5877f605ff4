/-
  THE ARGUMENTS OF BOTH LAWS, OPENED.
-/
import Derived.Test.YbulkblnkIn
import Derived.ProofKit
import Derived.SliceStrings
import Derived.OpenShut
import Derived.Laws.IdiomArrays
namespace Go.Proofs.Ybulkblnk
open Go.ChangeShapes Go.WideShapes Go.ChangeAt Go.RowKit

theorem own : ownKnob Yba.prog.godebug = none := by kernel_rfl
theorem laidOut : laidOutB Yba.prog = true := by kernel_rfl
theorem cells9 : Yba.prog.cellsOf 9 = 1 := by kernel_rfl
theorem cells3 : Yba.prog.cellsOf 3 = 1 := by kernel_rfl
theorem cells22 : Yba.prog.cellsOf 22 = 4 := by kernel_rfl

theorem list4 {α : Type} (l : List α) (h : (⟨l⟩ : Array α).size = 4) : ∃ a b c d, l = [a, b, c, d] := by
  match l, h with
  | [a, b, c, d], _ => exact ⟨a, b, c, d, rfl⟩

set_option maxRecDepth 100000 in
/-- An array of four ints. -/
theorem array_of_trod {H : Type} {enc : TypeId × Value → H} {W : World} {base : Nat} {v : Value} {d : DataW H} {p : List MemPlace} (hv : Value.okWide Yba.prog W .any base 22 v)
    (h : DataW.Trod enc Yba.prog W 0 (fun _ => true) true 22 v d p) : ∃ c0 c1 c2 c3 : Int, v = .agg #[.int .i64 c0, .int .i64 c1, .int .i64 c2, .int .i64 c3] ∧ (Lit.int .i64 c0).wf = true ∧ (Lit.int .i64 c1).wf = true ∧ (Lit.int .i64 c2).wf = true ∧ (Lit.int .i64 c3).wf = true := by
  obtain ⟨cs, rfl, hsz, _⟩ : ∃ cs, v = .agg cs ∧ cs.size = Yba.prog.cellsOf 22 ∧ Row.okWide Yba.prog W .any base 22 cs := by
    simpa [Value.okWide, Yba.underlying22] using hv
  rw [cells22] at hsz
  obtain ⟨l⟩ := cs
  obtain ⟨c0, c1, c2, c3, rfl⟩ := list4 l hsz
  obtain ⟨fuel, hf⟩ := h
  obtain ⟨y0, y1, y2, y3, m, hx, hy0, hy1, hy2, hy3⟩ := trod_array4 Yba.underlying22 cells3 hf
  obtain ⟨x0, e0, _, w0⟩ := DataW.trod_int Yba.underlying3 hy0
  obtain ⟨x1, e1, _, w1⟩ := DataW.trod_int Yba.underlying3 hy1
  obtain ⟨x2, e2, _, w2⟩ := DataW.trod_int Yba.underlying3 hy2
  obtain ⟨x3, e3, _, w3⟩ := DataW.trod_int Yba.underlying3 hy3
  simp at e0 e1 e2 e3
  subst e0 e1 e2 e3
  exact ⟨x0, x1, x2, x3, rfl, w0, w1, w2, w3⟩

/-- A slice of bytes. -/
theorem bytes_of_trod {H : Type} {enc : TypeId × Value → H} {W : World} {a0 : Option Addr} {len cap : Nat} {d : DataW H} {p : List MemPlace}
    (h : DataW.Trod enc Yba.prog W 0 (fun _ => true) true 23 (.slice a0 len cap) d p) : ∃ l : List Int, l.length = len ∧ len ≤ maxLen ∧ RowU W a0 l ∧ (a0 = none → len = 0 ∧ cap = 0) := by
  obtain ⟨fuel, hf⟩ := h
  rcases open_ints Yba.underlying23 Yba.underlying5 (by kernel_rfl) hf with ⟨hcs, _⟩ | ⟨a, l, c, zs, hcs, _, hl, hm, hz, _, hcell, hwz⟩
  · simp [Value.cells] at hcs
    obtain ⟨rfl, rfl, rfl⟩ := hcs
    exact ⟨[], rfl, Nat.zero_le _, Or.inl rfl, fun _ => ⟨rfl, rfl⟩⟩
  · simp [Value.cells] at hcs
    obtain ⟨rfl, rfl, rfl⟩ := hcs
    simp at hz
    refine ⟨zs.take len, by rw [List.length_take]; omega, Nat.le_trans hl hm, ?_, fun h => by cases h⟩
    by_cases h0 : len = 0
    · exact Or.inl (by rw [h0]; rfl)
    · obtain ⟨b, off, rfl, hc⟩ := ints_at hcell (by omega)
      refine Or.inr ⟨b, off, rfl, fun i hi => ?_⟩
      have hi2 : i < zs.length := by rw [List.length_take] at hi; omega
      have hb := bounds_u8 (hwz zs[i] (List.getElem_mem hi2))
      rw [hc i hi2, List.getElem_take, List.getD_eq_getElem?_getD, List.getElem?_eq_getElem hi2]
      exact ⟨rfl, hb.1, by omega⟩

/-- A slice of strings. -/
theorem row_of_trod {H : Type} {enc : TypeId × Value → H} {W : World} {a0 : Option Addr} {len cap : Nat} {d : DataW H} {p : List MemPlace}
    (h : DataW.Trod enc Yba.prog W 0 (fun _ => true) true 28 (.slice a0 len cap) d p) : ∃ l : List ByteArray, l.length = len ∧ len ≤ maxLen ∧ len ≤ cap ∧ Row W a0 l ∧ (∀ s ∈ l, s.size ≤ maxLen) ∧ (a0 = none → len = 0 ∧ cap = 0) := by
  obtain ⟨fuel, hf⟩ := h
  rcases open_strings Yba.underlying28 Yba.underlying9 cells9 hf with ⟨hcs, hx⟩ | ⟨a, len', cap', ss, hcs, _, hl, hm, hz, hx, hcell, hws⟩
  · simp [Value.cells] at hcs
    obtain ⟨rfl, rfl, rfl⟩ := hcs
    exact ⟨[], rfl, Nat.zero_le _, Nat.zero_le _, Or.inl rfl, (fun s hs => by cases hs), fun _ => ⟨rfl, rfl⟩⟩
  · simp [Value.cells] at hcs
    obtain ⟨rfl, rfl, rfl⟩ := hcs
    simp at hz
    refine ⟨ss.take len, by rw [List.length_take]; omega, Nat.le_trans hl hm, hl, ?_, fun s hs => hws s (List.mem_of_mem_take hs), fun h => by cases h⟩
    by_cases h0 : len = 0
    · exact Or.inl (by rw [h0]; rfl)
    · obtain ⟨b, off, spot⟩ := a
      have hspot : spot = none := by simpa [Addr.add] using World.cell?_spot (hcell 0 (by omega))
      subst hspot
      refine Or.inr ⟨b, off, rfl, fun i hi => ?_⟩
      have hi2 : i < ss.length := by rw [List.length_take] at hi; omega
      rw [← Go.WideShapes.add_plain, hcell i hi2, List.getElem_take, List.getD_eq_getElem?_getD, List.getElem?_eq_getElem hi2]
      rfl
end Go.Proofs.Ybulkblnk
