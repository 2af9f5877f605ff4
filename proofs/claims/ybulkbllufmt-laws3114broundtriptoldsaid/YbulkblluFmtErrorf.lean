/-
  CLOSED FACTS for the walk over 'fmt.errorf' (the stop) and over []byte(s) and string(b).
-/
import Derived.Test.YbulkblluFmtWordsWalks
import Derived.Laws.Cells
import Derived.Laws.IdiomStrings
import Derived.Stop.FmtTextSlices
namespace Go.Proofs.YbulkblluFmt
open Go.Extern.Stop Go.Stop Go.Extern Go.RowKit

theorem Ybaf.call11 (args : Array Value) (w : World) : (callFunc 11 args).run Ybaf.prog w = ((FmtStop.errorf #[9, 37] #[27] args).run Ybaf.prog w).andThen fun v w' => .ok (.value v) w' :=
  run_callFunc_extern Ybaf.func11 (by kernel_rfl) (by kernel_rfl) (by kernel_rfl) (by kernel_rfl) args w
/-- The format of UnmarshalText's complaint. -/
def fmtB : ByteArray := ⟨#[117, 110, 107, 110, 111, 119, 110, 32, 112, 114, 111, 102, 105, 108, 101, 32, 37, 113, 58, 32, 119, 97, 110, 116, 32, 111, 110, 101, 32, 111, 102, 32, 37, 115]⟩
theorem Ybaf.fmt1r (w : World) : (FmtDoors.printed ⟨#[117, 110, 107, 110, 111, 119, 110, 32, 112, 114, 111, 102, 105, 108, 101, 32, 37, 113, 58, 32, 119, 97, 110, 116, 32, 111, 110, 101, 32, 111, 102, 32, 37, 115]⟩ 2).run Ybaf.prog w = .ok [(0, 113, false), (1, 115, false)] w := by kernel_rfl
def Ybaf.shape9 : List UInt8 := [12, 6, 0, 0, 0, 0, 0, 0, 0, 115, 116, 114, 105, 110, 103]
theorem Ybaf.op9_115w (name : String) (x : ByteArray) (w : World) : (FmtStop.operand name true 115 false (.iface 9 (.string x))).run Ybaf.prog w = .ok (Ybaf.shape9, FmtStop.pack x.data.toList) w := by kernel_rfl
theorem Ybaf.ptr46 (w : World) : (FmtStop.ptrTo "errors.errorString").run Ybaf.prog w = .ok 46 w := by kernel_rfl
theorem Ybaf.elem46 (w : World) : (elemOf 46).run Ybaf.prog w = .ok 48 w := by kernel_rfl

theorem Ybaf.value5 (name : String) (x : Int) (w : World) : (FmtStop.value name FmtStop.depth 5 [.int .u8 x]).run Ybaf.prog w = .ok (digits 8 (x % 2 ^ 64).toNat) w := by kernel_rfl
theorem Ybaf.values5 (name : String) (w : World) : ∀ xs : List Int, (List.mapM ((fun c => FmtStop.value name FmtStop.depth 5 [c]) ∘ Value.int IntKind.u8) xs).run Ybaf.prog w = .ok (xs.map fun x => digits 8 (x % 18446744073709551616).toNat) w
  | [] => by simp [List.mapM_nil]
  | x :: xs => by
    have ih := Ybaf.values5 name w xs
    have h := Ybaf.value5 name x w
    simp [List.mapM_cons, h, ih, Result.andThen]
/-- What a slice of bytes in memory reads as: two lists, whatever they are. -/
theorem Ybaf.opBytes (name : String) (a : Addr) (cap : Nat) (xs : List Int) (w : World) (hc : ∀ j v, (xs.map (Value.int .u8))[j]? = some v → w.cell? (a.add j) = some v) :
    ∃ x y, (FmtStop.operand name true 113 false (.iface 29 (.slice (some a) xs.length cap))).run Ybaf.prog w = .ok (x, y) w := by
  have h1 : (typeStr 29).run Ybaf.prog w = .ok Ybaf.t29.str w := by kernel_rfl
  have hb : (FmtStop.bare (FmtStop.asked true 113 false) 29).run Ybaf.prog w = .ok true w := by kernel_rfl
  have hs : (FmtStop.scalar 5).run Ybaf.prog w = .ok true w := by kernel_rfl
  have hy : (Extern.Stop.isByte 5).run Ybaf.prog w = .ok true w := by kernel_rfl
  have hw : Ybaf.prog.funcs.any (·.name == FmtStop.writeWord) = true := by kernel_rfl
  have hsh : (FmtStop.shape name (FmtStop.asked true 113 false) FmtStop.depth 5).run Ybaf.prog w = .ok (6 :: FmtStop.pack "uint8".toUTF8.data.toList) w := by kernel_rfl
  have hl := run_loadCells_list (P := Ybaf.prog) w a (xs.map (Value.int .u8)) hc
  rw [List.length_map] at hl
  refine ⟨13 :: (FmtStop.pack Ybaf.t29.str.toUTF8.data.toList ++ 6 :: FmtStop.pack "uint8".toUTF8.data.toList), 1 :: (digits 8 xs.length ++ FmtText.intValues xs), ?_⟩
  simp [FmtStop.operand, h1, hb, hs, hy, hsh, hl, Ybaf.values5, FmtText.intValues]
  intro hno
  obtain ⟨i, hi, _, _, he⟩ := Array.any_iff_exists.1 hw
  exact absurd (by simpa using he) (hno i hi)
end Go.Proofs.YbulkblluFmt
