/-
  WHAT THE LISTED VARIABLE 'profileWords' READS AS, out of the row's 'laid'; a start at which it does (the shown start). Turned from the kit's CapsTold to this program.
-/
import Derived.Test.YbulkblluFmtWordsWalks
import Derived.ProofKit
import Derived.OpenVars
import Derived.Stop.JoinedAt
import Derived.Stop.JoinedTold
import Derived.Stop.Texts
import Derived.Stop.LaidErr
namespace Go.Proofs.YbulkblluFmt
open Go.ChangeShapes Go.WideShapes Go.ChangeAt Go.RowKit Go.Kit
open Go.ChangeMaps (open_string shut_string)
open Go.Extern.Stop Go.Stop Go.Extern

theorem Ybaf.own : ownKnob Ybaf.prog.godebug = none := by kernel_rfl
theorem Ybaf.laidOut : laidOutB Ybaf.prog = true := by kernel_rfl
theorem Ybaf.stops : Ybaf.pinned.checked.prog.stops = Rows.lawS3114BWordsRow.stops := by kernel_rfl
theorem Ybaf.stopKnobs : Ybaf.pinned.checked.prog.stopKnobs = [] := by kernel_rfl
theorem Ybaf.quiet (os : Os) : Stop.quiet Ybaf.pinned.checked.prog os := by
  intro k hk
  rw [Ybaf.stopKnobs] at hk
  cases hk
/-- The listed variable's name, as the row spells it. -/
def nm : String := Rows.lawS3114BWordsSpec.vars.headD ""
theorem Ybaf.gN : Ybaf.prog.globalNamed nm = some 0 := by kernel_rfl
theorem Ybaf.gNType : (Ybaf.prog.globals[0]?).map (·.type) = some 31 := by kernel_rfl
theorem Ybaf.cells31 : Ybaf.prog.cellsOf 31 = 4 := by kernel_rfl
theorem Ybaf.cells9 : Ybaf.prog.cellsOf 9 = 1 := by kernel_rfl

def cells4 : Array Value := #[.string ⟨#[110, 111, 110, 101]⟩, .string ⟨#[115, 122, 115, 101, 45, 109, 97, 105, 110]⟩, .string ⟨#[115, 122, 115, 101, 45, 99, 104, 105, 110, 101, 120, 116]⟩, .string ⟨#[115, 115, 101, 45, 115, 116, 97, 114]⟩]

theorem str_of_trod {H : Type} {enc : TypeId × Value → H} {w : World} {base : Nat} {sp : Nat → Bool} {held : Bool} {fuel : Nat} {c : Value} {y : DataW H × List MemPlace}
    (h : DataW.trod enc Ybaf.prog w base sp held fuel 9 [c] = some y) : ∃ s : ByteArray, c = .string s ∧ y = (.lit (.string s.data.toList), []) := by
  obtain ⟨s, hc, hy, _⟩ := DataW.trod_string Ybaf.underlying9 h
  simp only [List.cons.injEq, and_true] at hc
  exact ⟨s, hc, hy⟩
theorem ba_of_list {s : ByteArray} {l : List UInt8} (h : s.data.toList = l) : s = ⟨l.toArray⟩ := by rw [← h]

theorem cells_of_laid {W : World} (h : laidMet Ybaf.prog [(nm, Rows.laid_example_com_recuse_recuse_pkg_register_profileWords)] W) : W.var? Ybaf.prog nm = some cells4 := by
  obtain ⟨ps, ⟨g, t, cs, fuel, p, q, hg, ht, hvar, hd, _, _⟩, _⟩ := h
  obtain rfl := Option.some.inj (Ybaf.gN.symm.trans hg)
  obtain rfl := Option.some.inj (Ybaf.gNType.symm.trans ht)
  rw [hvar]
  congr 1
  obtain ⟨l⟩ := cs
  cases fuel with
  | zero => simp [DataW.trod] at hd
  | succ fuel =>
    simp only [DataW.trod, Ybaf.underlying31, Ybaf.cells31, Ybaf.cells9] at hd
    split at hd
    · rename_i hl
      obtain ⟨c0, c1, c2, c3, rfl⟩ : ∃ c0 c1 c2 c3, l = [c0, c1, c2, c3] := by
        match l, hl with
        | [a, b, c, d], _ => exact ⟨a, b, c, d, rfl⟩
      have e : List.range 4 = [0, 1, 2, 3] := rfl
      rw [e] at hd
      simp only [Option.map_eq_some_iff, List.mapM_cons, List.mapM_nil, Option.bind_eq_bind, Option.bind_eq_some_iff, Option.pure_def, Option.some.injEq] at hd
      obtain ⟨xs, ⟨y0, h0, _, ⟨y1, h1, _, ⟨y2, h2, _, ⟨y3, h3, _, rfl, rfl⟩, rfl⟩, rfl⟩, rfl⟩, hx⟩ := hd
      obtain ⟨n0, rfl, rfl⟩ := str_of_trod h0
      obtain ⟨n1, rfl, rfl⟩ := str_of_trod h1
      obtain ⟨n2, rfl, rfl⟩ := str_of_trod h2
      obtain ⟨n3, rfl, rfl⟩ := str_of_trod h3
      simp [Rows.laid_example_com_recuse_recuse_pkg_register_profileWords] at hx
      obtain ⟨⟨e0, e1, e2, e3⟩, _⟩ := hx
      rw [ba_of_list e0, ba_of_list e1, ba_of_list e2, ba_of_list e3]
      rfl
    · cases hd

theorem table_of_laid {W : World} (h : laidMet Ybaf.prog [(nm, Rows.laid_example_com_recuse_recuse_pkg_register_profileWords)] W) : Table W := by
  have hvar := cells_of_laid h
  exact ⟨by simpa [cells4] using World.var?_cell Ybaf.gN hvar 0, by simpa [cells4] using World.var?_cell Ybaf.gN hvar 1, by simpa [cells4] using World.var?_cell Ybaf.gN hvar 2, by simpa [cells4] using World.var?_cell Ybaf.gN hvar 3⟩

/-- The shown start: the settled world with the four words laid. -/
def laidWorld (P : Program) (os : Os) : World :=
  { World.holding P os ⟨#[], #[], []⟩ with heap := (World.holding P os ⟨#[], #[], []⟩).heap.modify 0 fun
      | .cells _ t frozen => .cells cells4 t frozen
      | o => o }
theorem laid_met (os : Os) (args : Array Value) : laidMet Ybaf.prog Rows.lawS3114BWordsRow.laid ((laidWorld Ybaf.prog os).forCall (fun _ _ => 0) ⟨#[], args, []⟩).memory :=
  laidMet_of_run (ps := [.cell 0 0, .cell 0 1, .cell 0 2, .cell 0 3]) 8 (by kernel_rfl) (by kernel_rfl) (by kernel_rfl)
end Go.Proofs.YbulkblluFmt
