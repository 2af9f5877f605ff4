/-
  THE CONTRACT of queue.uncount.
-/
import Derived.Test.YbulkblnkRemove
import Derived.Test.YbulkblnkTime
import Derived.Deep.QuietTactic
import Derived.BigQuiet
import Derived.Deep.RegionWith
namespace Go.Proofs.Ybulkblnk
open Go.RowKit Go.Maps

/-- The cells of the queue and of the event that are read. -/
structure QE (w : World) (qb eb mb : Nat) (counted arriving : Bool) (wl e : Int) : Prop where
  c1 : w.cell? ⟨qb, 1, none⟩ = some (.bool counted)
  c2 : w.cell? ⟨qb, 2, none⟩ = some (.int .u64 wl)
  c3 : w.cell? ⟨qb, 3, none⟩ = some (.int .i64 e)
  c4 : w.cell? ⟨qb, 4, none⟩ = some (.pointer none)
  c5 : w.cell? ⟨qb, 5, none⟩ = some (.map (some mb))
  a7 : w.cell? ⟨eb, 7, none⟩ = some (.bool arriving)

theorem below_drawn {B : Nat} {a w : World} (h : Below B a w) (n : Nat) : Below B a (w.drewN n) := ⟨h.os, h.tape, h.output, h.size, h.block⟩

theorem below_grownBy {w w' : World} (h : Below w.heap.size w w') (row : Option Nat) : w.grownBy w' row := ⟨h.os, h.tape, h.output, h.size, fun k hk _ => h.block k hk⟩

set_option maxHeartbeats 400000 in
theorem uncount_off1 (qb eb mb : Nat) (arriving : Bool) (wl e wl' e' : Int) (w : World) (C : QE w qb eb mb false arriving wl e) :
    Calls Yba.prog 7 #[.pointer (some ⟨qb, 0, none⟩), .pointer (some ⟨eb, 0, none⟩), .agg #[.int .u64 wl', .int .i64 e', .pointer none]] w fun r w' => r = .returned (.tuple #[]) ∧ Below w.heap.size w w' := by
  obtain ⟨c1, c2, c3, c4, c5, a7⟩ := C
  have hq := World.block_lt_of_cell? _ _ c1
  go_enter Yba.func7, Yba.ntmps7
  go_wp2
  go_quiet (fail)
  go_wp2
  go_end0
  exact ⟨rfl, below_drawn ((Below.refl _ _).alloc (Nat.le_refl _) _) _⟩
set_option maxHeartbeats 400000 in
theorem uncount_off2 (qb eb mb : Nat) (wl e wl' e' : Int) (w : World) (C : QE w qb eb mb true true wl e) :
    Calls Yba.prog 7 #[.pointer (some ⟨qb, 0, none⟩), .pointer (some ⟨eb, 0, none⟩), .agg #[.int .u64 wl', .int .i64 e', .pointer none]] w fun r w' => r = .returned (.tuple #[]) ∧ Below w.heap.size w w' := by
  obtain ⟨c1, c2, c3, c4, c5, a7⟩ := C
  have hq := World.block_lt_of_cell? _ _ c1
  have hq7 := World.block_lt_of_cell? _ _ a7
  go_enter Yba.func7, Yba.ntmps7
  go_wp2
  go_quiet (fail)
  go_wp2
  go_end0
  exact ⟨rfl, below_drawn ((Below.refl _ _).alloc (Nat.le_refl _) _) _⟩
set_option maxHeartbeats 1000000 in
theorem uncount_off3 (qb eb mb : Nat) (wl e wl' e' : Int) (w : World) (h0 : 0 ≤ wl) (h1 : wl < 1000000000) (g0 : 0 ≤ wl') (g1 : wl' < 1000000000) (hs : sameT wl' e' wl e = false) (C : QE w qb eb mb true false wl e) :
    Calls Yba.prog 7 #[.pointer (some ⟨qb, 0, none⟩), .pointer (some ⟨eb, 0, none⟩), .agg #[.int .u64 wl', .int .i64 e', .pointer none]] w fun r w' => r = .returned (.tuple #[]) ∧ Below w.heap.size w w' := by
  obtain ⟨c1, c2, c3, c4, c5, a7⟩ := C
  have hq := World.block_lt_of_cell? _ _ c1
  have hq7 := World.block_lt_of_cell? _ _ a7
  go_enter Yba.func7, Yba.ntmps7
  go_wp2
  go_region_with (go_at_call 9; refine Calls.mono (equal_any wl' e' wl e _ g0 g1 h0 h1) ?_; rintro r w1 ⟨rfl, rfl⟩)
  all_goals
    go_wp2
    go_end0
    exact ⟨rfl, by repeat (first | exact Below.refl _ _ | refine Below.drew ?_ | (refine Below.alloc ?_ (by first | (simp; done) | (simp; omega)) _))⟩

set_option maxHeartbeats 1000000 in
theorem uncount_on (qb eb mb : Nat) (wl e wl' e' : Int) (ta : Option Addr) (tags : List ByteArray) (tc n : Nat) (f : List UInt8 → Option Int) (w : World) (h0 : 0 ≤ wl) (h1 : wl < 1000000000) (g0 : 0 ≤ wl') (g1 : wl' < 1000000000) (hs : sameT wl' e' wl e = true) (C : QE w qb eb mb true false wl e)
    (hn : n ≤ 1000000) (hl : tags.length ≤ 1000000) (htc : tags.length ≤ tc) (hsz : ∀ s ∈ tags, s.size ≤ maxLen) (hcell : w.cell? ⟨eb, 6, none⟩ = some (.slice ta tags.length tc)) (R : Row w ta tags) (M : MapIs w mb n f) :
    Calls Yba.prog 7 #[.pointer (some ⟨qb, 0, none⟩), .pointer (some ⟨eb, 0, none⟩), .agg #[.int .u64 wl', .int .i64 e', .pointer none]] w fun r w' => r = .returned (.tuple #[]) ∧ MapIs w' mb (n + tags.length) (remTo f tags tags.length) ∧ w.grownBy w' (some mb) := by
  obtain ⟨c1, c2, c3, c4, c5, a7⟩ := C
  have hq : qb < w.heap.size := World.block_lt_of_cell? _ _ c1
  have hq7 : eb < w.heap.size := World.block_lt_of_cell? _ _ a7
  have hq1 : qb < w.heap.size + 1 := by omega
  have hq2 : qb < w.heap.size + 1 + 1 := by omega
  have HC : Hid (w.cell? ⟨eb, 6, none⟩ = some (.slice ta tags.length tc)) := hcell
  have HZ : Hid (∀ s ∈ tags, s.size ≤ maxLen) := hsz
  clear hcell hsz
  go_enter Yba.func7, Yba.ntmps7
  go_wp2
  go_region_with (go_at_call 9; refine Calls.mono (equal_any wl' e' wl e _ g0 g1 h0 h1) ?_; rintro r w1 ⟨rfl, rfl⟩)
  all_goals
    go_wp2_with fail
    refine Calls.mono (remove_any mb eb ta tags tc n f _ hn hl htc HZ.out ?_ ?_ ?_) ?_
    · refine (Below.cell (B := w.heap.size) (w := w) ?_ (by exact hq7)).trans HC.out
      repeat (first | exact Below.refl _ _ | refine Below.drew ?_ | (refine Below.alloc ?_ (by first | (simp; done) | (simp; omega)) _))
    · refine R.below ?_
      repeat (first | exact Below.refl _ _ | refine Below.drew ?_ | (refine Below.alloc ?_ (by first | (simp; done) | (simp; omega)) _))
    · refine M.below (B := w.heap.size) ?_ M.lt
      repeat (first | exact Below.refl _ _ | refine Below.drew ?_ | (refine Below.alloc ?_ (by first | (simp; done) | (simp; omega)) _))
    rintro r w2 ⟨rfl, hM, hg⟩
    go_wp2_with fail
    go_end0
    refine ⟨rfl, hM, World.grownBy.trans (row := some mb) (below_grownBy ?_ _) hg⟩
    repeat (first | exact Below.refl _ _ | refine Below.drew ?_ | (refine Below.alloc ?_ (by first | (simp; done) | (simp; omega)) _))

/-- The three conditions. -/
def actB (counted arriving same : Bool) : Bool := counted && !arriving && same

theorem uncount_any (qb eb mb : Nat) (counted arriving : Bool) (wl e wl' e' : Int) (ta : Option Addr) (tags : List ByteArray) (tc n : Nat) (f : List UInt8 → Option Int) (w : World) (h0 : 0 ≤ wl) (h1 : wl < 1000000000) (g0 : 0 ≤ wl') (g1 : wl' < 1000000000) (C : QE w qb eb mb counted arriving wl e)
    (hn : n ≤ 1000000) (hl : tags.length ≤ 1000000) (htc : tags.length ≤ tc) (hsz : ∀ s ∈ tags, s.size ≤ maxLen) (hcell : w.cell? ⟨eb, 6, none⟩ = some (.slice ta tags.length tc)) (R : Row w ta tags) (M : MapIs w mb n f) :
    Calls Yba.prog 7 #[.pointer (some ⟨qb, 0, none⟩), .pointer (some ⟨eb, 0, none⟩), .agg #[.int .u64 wl', .int .i64 e', .pointer none]] w fun r w' => r = .returned (.tuple #[]) ∧ MapIs w' mb (n + tags.length) (fun s => if actB counted arriving (sameT wl' e' wl e) then remTo f tags tags.length s else f s) ∧ w.grownBy w' (some mb) := by
  cases counted with
  | false =>
    refine (uncount_off1 qb eb mb arriving wl e wl' e' w C).mono fun r w' ⟨hr, hb⟩ => ⟨hr, ?_, below_grownBy hb _⟩
    exact ((M.below hb M.lt).mono (by omega)).congr (fun s => by simp [actB])
  | true =>
    cases arriving with
    | true =>
      refine (uncount_off2 qb eb mb wl e wl' e' w C).mono fun r w' ⟨hr, hb⟩ => ⟨hr, ?_, below_grownBy hb _⟩
      exact ((M.below hb M.lt).mono (by omega)).congr (fun s => by simp [actB])
    | false =>
      cases hs : sameT wl' e' wl e with
      | false =>
        refine (uncount_off3 qb eb mb wl e wl' e' w h0 h1 g0 g1 hs C).mono fun r w' ⟨hr, hb⟩ => ⟨hr, ?_, below_grownBy hb _⟩
        exact ((M.below hb M.lt).mono (by omega)).congr (fun s => by simp [actB])
      | true =>
        refine (uncount_on qb eb mb wl e wl' e' ta tags tc n f w h0 h1 g0 g1 hs C hn hl htc hsz hcell R M).mono fun r w' ⟨hr, hM, hg⟩ => ⟨hr, ?_, hg⟩
        exact hM.congr (fun s => by simp [actB])
end Go.Proofs.Ybulkblnk
