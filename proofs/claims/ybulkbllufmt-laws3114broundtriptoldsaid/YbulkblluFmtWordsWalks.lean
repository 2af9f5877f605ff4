/-
  THE WALKS of LawS3114BWords: 'Profile.String' and 'zzs3114bword' are entered in place. Two walks: 0 to 3, the word out of the table; elsewhere, fmt's answer, which is not judged.
-/
import Derived.Test.YbulkblluFmtFacts
namespace Go.Proofs.YbulkblluFmt
open Go.Extern.Stop Go.Stop Go.Extern Go.RowKit
attribute [local go_sem] Ybaf.call8 Ybaf.guard Ybaf.fmt0 Ybaf.fmt0r Ybaf.op3_100

/-- What the table holds, cell by cell. -/
structure Table (w : World) : Prop where
  c0 : w.cell? ⟨0, 0, none⟩ = some (.string ⟨#[110, 111, 110, 101]⟩)
  c1 : w.cell? ⟨0, 1, none⟩ = some (.string ⟨#[115, 122, 115, 101, 45, 109, 97, 105, 110]⟩)
  c2 : w.cell? ⟨0, 2, none⟩ = some (.string ⟨#[115, 122, 115, 101, 45, 99, 104, 105, 110, 101, 120, 116]⟩)
  c3 : w.cell? ⟨0, 3, none⟩ = some (.string ⟨#[115, 115, 101, 45, 115, 116, 97, 114]⟩)

set_option maxHeartbeats 400000 in
theorem words_in (x : Int) (w : World) (h : x = 0 ∨ x = 1 ∨ x = 2 ∨ x = 3) (T : Table w) :
    Calls Ybaf.prog 3 #[.int .i64 x] w fun e w' => e = .returned (.bool true) ∧ Below w.heap.size w w' := by
  obtain ⟨c0, c1, c2, c3⟩ := T
  rcases h with rfl | rfl | rfl | rfl
  all_goals
    go_enter Ybaf.func3, Ybaf.ntmps3
    go_wp2
    go_ret
    exact ⟨rfl, Below.refl _ _⟩

set_option maxHeartbeats 400000 in
theorem words_out (F : Interp) (x : Int) (w : World) (h : x < 0 ∨ 3 < x) (hF : F.answers w.tape) :
    Calls Ybaf.prog 3 #[.int .i64 x] w fun e w' => e = .returned (.bool true) ∧ Below w.heap.size w w' := by
  have hF' := answers_open hF
  rcases h with h | h
  · have g : ¬ 0 ≤ x := by omega
    go_enter Ybaf.func3, Ybaf.ntmps3
    go_wp2
    go_ret
    exact ⟨rfl, ((Below.refl _ _).alloc (Nat.le_refl _) _).drew⟩
  · have g : 0 ≤ x := by omega
    have g1 : ¬ x < 4 := by omega
    have g2 : ¬ x ≤ 3 := by omega
    go_enter Ybaf.func3, Ybaf.ntmps3
    go_wp2
    go_ret
    exact ⟨rfl, ((Below.refl _ _).alloc (Nat.le_refl _) _).drew⟩
end Go.Proofs.YbulkblluFmt
