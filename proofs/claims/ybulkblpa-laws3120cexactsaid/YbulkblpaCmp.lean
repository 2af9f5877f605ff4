/-
  THE LAW'S OWN ORDER OF VALUES, AS A CONTRACT: IT ANSWERS AS THE MODEL'S COMPARE.
-/
import Derived.Test.YbulkblpaBytes
namespace Go.Proofs.Ybulkblpa
open Go.RowKit

/-- The law's own order: over selectors. -/
def ownC (ka na : Int) (sa : ByteArray) (kb nb : Int) (sb : ByteArray) : Int :=
  if ka % 3 = 1 ∧ kb % 3 = 1 then cmpI na nb else if ka % 3 = 0 ∧ kb % 3 = 0 then 0 else if ka % 3 = 0 then 1 else if kb % 3 = 0 then -1 else
    Lib.compareBytes (if ka % 3 = 2 then sa else ByteArray.empty).data.toList (if kb % 3 = 2 then sb else ByteArray.empty).data.toList

theorem own_is {ka na : Int} {sa : ByteArray} {kb nb : Int} {sb ta tb : ByteArray} {ma ja mb jb : Int} (ha : Is ka na sa ta ma ja) (hb : Is kb nb sb tb mb jb) : ownC ka na sa kb nb sb = cmpV ta ma ja tb mb jb := by
  unfold ownC cmpV
  rcases ha with ⟨h1, rfl, rfl, rfl⟩ | ⟨h1, rfl, rfl, rfl⟩ | ⟨h1, rfl, rfl, rfl⟩ <;> rcases hb with ⟨h2, rfl, rfl, rfl⟩ | ⟨h2, rfl, rfl, rfl⟩ | ⟨h2, rfl, rfl, rfl⟩ <;> simp [h1, h2]

set_option maxHeartbeats 2000000 in
theorem ccmp_any (ka na : Int) (sa : ByteArray) (kb nb : Int) (sb : ByteArray) (h1 : 0 ≤ ka) (h2 : 0 ≤ kb) (ha : sa.size ≤ 1024) (w : World) :
    Calls Yba.prog 7 #[.int .u8 ka, .int .i64 na, .string sa, .int .u8 kb, .int .i64 nb, .string sb] w fun e w' => e = .returned (.int .i64 (ownC ka na sa kb nb sb)) ∧ Grown w w' := by
  have m1 : ka.tmod 3 = ka % 3 := Int.tmod_eq_emod_of_nonneg h1
  have m2 : kb.tmod 3 = kb % 3 := Int.tmod_eq_emod_of_nonneg h2
  have c1 : ka % 3 = 0 ∨ ka % 3 = 1 ∨ ka % 3 = 2 := by omega
  have c2 : kb % 3 = 0 ∨ kb % 3 = 1 ∨ kb % 3 = 2 := by omega
  unfold ownC
  clear h1 h2
  rcases c1 with c1 | c1 | c1 <;> rcases c2 with c2 | c2 | c2 <;> simp only [c1, c2] <;> simp
  all_goals rw [c1] at m1
  all_goals rw [c2] at m2
  all_goals clear c1 c2
  all_goals go_enter Yba.func7, Yba.ntmps7
  all_goals go_wp2_with fail
  all_goals first
    | (go_ret; exact ⟨by simp [cmpI] <;> omega, Grown.refl _⟩)
    | (refine Calls.mono (bytes_any _ _ (by first | exact ha | exact Nat.zero_le _) _) ?_
       rintro e w' ⟨rfl, hg⟩
       go_wp2
       go_ret
       exact ⟨by first | rfl | simp, hg⟩)
end Go.Proofs.Ybulkblpa
