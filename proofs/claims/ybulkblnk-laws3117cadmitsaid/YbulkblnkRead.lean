/-
  THE TWO MAPS, READ: AS RUN EQUATIONS.
-/
import Derived.Test.YbulkblnkHere
import Derived.LaidEql
namespace Go.Proofs.Ybulkblnk
open Go.RowKit Go.Maps

/-- The map m of type t reads as F, and has Z entries. -/
def Rd (w : World) (t : TypeId) (m : Option Nat) (F : List UInt8 → Option Int) (Z : Nat) : Prop :=
  (Builtin.len_ #[t] 3 #[.map m]).run Yba.prog w = .ok (.int .i64 (Z : Int)) w ∧ ∀ x : ByteArray, x.size ≤ maxLen → (Instr.lookup t (.map m) (.string x) false).run Yba.prog w = .ok (.int .i64 ((F x.data.toList).getD 0)) w

theorem Rd.some {w : World} {t : TypeId} {b n : Nat} {F : List UInt8 → Option Int} {D : DataW Unit} (ht : Yba.prog.underlying t = some (.map 9 3)) (ho : w.ownsMap Yba.prog 9 (plainElem Yba.prog 3) b n D) (hs : Sees D F) : Rd w t (some b) F (Maps.size D) := by
  refine ⟨ho.len ht 3, fun x hx => ?_⟩
  obtain ⟨c, hrun, hat, _⟩ := ho.lookup_int law ht Yba.underlying3 (zeroE _) (keyIs hx)
  rw [hs.1] at hat
  rw [hrun, val_zero hat]
theorem Rd.nil {w : World} {F : List UInt8 → Option Int} (hF : ∀ s, F s = none) : Rd w 25 none F 0 := by
  refine ⟨by kernel_rfl, fun x _ => ?_⟩
  rw [hF]
  have : (Instr.lookup 25 (.map none) (.string x) false).run Yba.prog w = .ok (.int .i64 0) w := by kernel_rfl
  exact this

theorem info46 : (Yba.prog.info? 46).isSome = true := by kernel_rfl
theorem eqIn_ptr (d : Nat) (a : Addr) (w : World) : (Op.equalIn (d + 1) 35 (.pointer (some a)) (.pointer (some a))).run Yba.prog w = .ok true w := by
  obtain ⟨j, hj⟩ := Option.isSome_iff_exists.1 info46
  simp [Op.equalIn, run_underlying Yba.underlying35, typeInfo, sizeOf, run_sameAddr_same, hj]
theorem ptr_same (a : Addr) (w : World) : (binOp .neq 35 (.pointer (some a)) (.pointer (some a))).run Yba.prog w = .ok (.bool false) w := by
  have h : (Op.equal 35 (.pointer (some a)) (.pointer (some a))).run Yba.prog w = .ok true w := eqIn_ptr 9999 a w
  simp [binOp, h]
end Go.Proofs.Ybulkblnk
