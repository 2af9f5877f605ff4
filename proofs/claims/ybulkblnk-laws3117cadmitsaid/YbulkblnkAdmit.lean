/-
  THE CONTRACT of the queue's taking-in, at a line that holds one event.
-/
import Derived.Test.YbulkblnkCount
import Derived.Test.YbulkblnkHeap
namespace Go.Proofs.Ybulkblnk
open Go.RowKit Go.Maps

/-- The event, admitted. -/
def adm (w : World) (eb : Nat) (seq : Int) : World := (w.setCell ⟨eb, 4, none⟩ (.int .u64 seq)).setCell ⟨eb, 7, none⟩ (.bool false)
theorem adm_size (w : World) (eb : Nat) (seq : Int) : (adm w eb seq).heap.size = w.heap.size := by simp [adm]
theorem adm_other {w : World} {eb : Nat} {seq : Int} {a : Addr} (h : a.block ≠ eb) : (adm w eb seq).cell? a = w.cell? a := by
  unfold adm
  rw [World.cell?_setCell_other _ _ _ _ (by intro e; exact h (by rw [← e])), World.cell?_setCell_other _ _ _ _ (by intro e; exact h (by rw [← e]))]
theorem adm_field {w : World} {eb : Nat} {seq : Int} {o : Nat} (h4 : o ≠ 4) (h7 : o ≠ 7) : (adm w eb seq).cell? ⟨eb, o, none⟩ = w.cell? ⟨eb, o, none⟩ := by
  unfold adm
  rw [World.cell?_setCell_other _ _ _ _ (by intro e; injection e with _ e2; exact h7 e2.symm), World.cell?_setCell_other _ _ _ _ (by intro e; injection e with _ e2; exact h4 e2.symm)]
theorem adm_4 {w : World} {eb : Nat} {seq : Int} {v : Value} (h : w.cell? ⟨eb, 4, none⟩ = some v) : (adm w eb seq).cell? ⟨eb, 4, none⟩ = some (.int .u64 seq) := by
  unfold adm
  rw [World.cell?_setCell_other _ _ _ _ (by intro e; injection e with _ e2; omega)]
  exact World.cell?_setCell_same _ _ _ h
theorem adm_7 {w : World} {eb : Nat} {seq : Int} {v : Value} (h : w.cell? ⟨eb, 7, none⟩ = some v) : (adm w eb seq).cell? ⟨eb, 7, none⟩ = some (.bool false) := by
  unfold adm
  refine World.cell?_setCell_same _ _ _ (?_ : _ = some v)
  rw [World.cell?_setCell_other _ _ _ _ (by intro e; injection e with _ e2; omega)]
  exact h
theorem adm_frozen (w : World) (eb : Nat) (seq : Int) (a : Addr) : (adm w eb seq).frozen? a = w.frozen? a := by
  unfold adm; rw [World.frozen?_setCell, World.frozen?_setCell]
theorem TagAt.adm {w : World} {qb n B : Nat} {f : List UInt8 → Option Int} {m0 : Option Nat} (h : TagAt w qb n f m0 B) {eb : Nat} (seq : Int) {v : Value} (hq : qb ≠ eb) (hc : w.cell? ⟨eb, 4, none⟩ = some v) : TagAt (Ybulkblnk.adm w eb seq) qb n f m0 B := by
  rcases h with ⟨h1, h2⟩ | ⟨b, h1, ⟨D, ho, hs⟩, h3⟩
  · exact Or.inl ⟨(adm_other hq).trans h1, h2⟩
  · have hne : b ≠ eb := fun e => (MapIs.ne (a := ⟨eb, 4, none⟩) ⟨D, ho, hs⟩ hc) e.symm
    exact Or.inr ⟨b, (adm_other hq).trans h1, ⟨D, (ho.setCell (a := ⟨eb, 4, none⟩) hne _).setCell (a := ⟨eb, 7, none⟩) hne _, hs⟩, h3⟩

set_option maxHeartbeats 2000000 in
theorem admit_any (qb eb : Nat) (m0 : Option Nat) (counted wide : Bool) (wl e wl' e' seq : Int) (sa : Option Addr) (sc : Nat) (v4 v7 : Value) (ta : Option Addr) (tags : List ByteArray) (tc n : Nat) (f : List UInt8 → Option Int) (w : World) (h0 : 0 ≤ wl) (h1 : wl < 1000000000) (g0 : 0 ≤ wl') (g1 : wl' < 1000000000)
    (hn : n ≤ 1000000) (hl : tags.length ≤ 1000000) (htc : tags.length ≤ tc) (hsz : ∀ s ∈ tags, s.size ≤ maxLen) (hf : ∀ s, 0 ≤ (f s).getD 0 ∧ (f s).getD 0 ≤ 1000000)
    (c0 : w.cell? ⟨qb, 0, none⟩ = some (.slice sa 1 sc)) (c1 : w.cell? ⟨qb, 1, none⟩ = some (.bool counted)) (c2 : w.cell? ⟨qb, 2, none⟩ = some (.int .u64 wl)) (c3 : w.cell? ⟨qb, 3, none⟩ = some (.int .i64 e)) (c4 : w.cell? ⟨qb, 4, none⟩ = some (.pointer none)) (c6 : w.cell? ⟨qb, 6, none⟩ = some (.bool wide))
    (a0 : w.cell? ⟨eb, 0, none⟩ = some (.int .u64 wl')) (a1 : w.cell? ⟨eb, 1, none⟩ = some (.int .i64 e')) (a2 : w.cell? ⟨eb, 2, none⟩ = some (.pointer none)) (a4 : w.cell? ⟨eb, 4, none⟩ = some v4) (a5 : w.cell? ⟨eb, 5, none⟩ = some (.int .i64 0)) (a6 : w.cell? ⟨eb, 6, none⟩ = some (.slice ta tags.length tc)) (a7 : w.cell? ⟨eb, 7, none⟩ = some v7)
    (z5 : w.frozen? ⟨qb, 5, none⟩ = false) (z6 : w.frozen? ⟨qb, 6, none⟩ = false) (y4 : w.frozen? ⟨eb, 4, none⟩ = false) (y7 : w.frozen? ⟨eb, 7, none⟩ = false)
    (heq : eb ≠ qb) (hem : some eb ≠ m0) (R : Row w ta tags) (hrq : ∀ b off, ta = some ⟨b, off, none⟩ → b ≠ eb ∧ b ≠ qb ∧ some b ≠ m0)
    (T : TagAt w qb n f m0 w.heap.size) :
    Calls Yba.prog 10 #[.pointer (some ⟨qb, 0, none⟩), .pointer (some ⟨eb, 0, none⟩), .int .u64 seq] w fun r w' => r = .returned (.tuple #[]) ∧
      TagAt w' qb (n + tags.length) (aft (counted && sameT wl' e' wl e) f tags) m0 w.heap.size ∧ FrQ qb m0 (adm w eb seq) w' ∧
      (∀ D : DataW Unit, Canon D → Sees D (aft (counted && sameT wl' e' wl e) f tags) → w'.cell? ⟨qb, 6, none⟩ = some (.bool (wide || (counted && sameT wl' e' wl e && decide (8 < Maps.size D))))) := by
  have hqe : qb ≠ eb := fun x => heq x.symm
  have hq : qb < w.heap.size := World.block_lt_of_cell? _ _ c0
  have C1 : QC (adm w eb seq) qb eb counted wide wl e wl' e' := ⟨(adm_other hqe).trans c1, (adm_other hqe).trans c2, (adm_other hqe).trans c3, (adm_other hqe).trans c4, (adm_other hqe).trans c6, (adm_field (by omega) (by omega)).trans a0, (adm_field (by omega) (by omega)).trans a1, (adm_field (by omega) (by omega)).trans a2, adm_7 a7, (adm_frozen _ _ _ _).trans z5, (adm_frozen _ _ _ _).trans z6⟩
  have d0 : (adm w eb seq).cell? ⟨qb, 0, none⟩ = some (.slice sa 1 sc) := (adm_other hqe).trans c0
  have d5 : (adm w eb seq).cell? ⟨eb, 5, none⟩ = some (.int .i64 0) := (adm_field (by omega) (by omega)).trans a5
  have d6 : Hid ((adm w eb seq).cell? ⟨eb, 6, none⟩ = some (.slice ta tags.length tc)) := (adm_field (by omega) (by omega)).trans a6
  have R1 : Row (adm w eb seq) ta tags := by
    rcases R with h | ⟨b, off, e, hc⟩
    · exact Or.inl h
    · exact Or.inr ⟨b, off, e, fun i hi => (adm_other (hrq b off e).1).trans (hc i hi)⟩
  have T1 : TagAt (adm w eb seq) qb n f m0 w.heap.size := T.adm seq hqe a4
  have hrq1 : Hid (∀ b off, ta = some ⟨b, off, none⟩ → b ≠ qb ∧ some b ≠ m0) := fun b off e => (hrq b off e).2
  have hS : Hid ((adm w eb seq).heap.size = w.heap.size) := adm_size w eb seq
  have hdef : Hid (adm w eb seq = (w.setCell ⟨eb, 4, none⟩ (.int .u64 seq)).setCell ⟨eb, 7, none⟩ (.bool false)) := rfl
  clear R T c0 c1 c2 c3 c4 c6 a0 a1 a2 a5 a6 z5 z6 hrq
  go_enter Yba.func10, Yba.ntmps10
  go_wp2
  rw [← hdef.out]
  clear hdef a4 a7 y4 y7
  generalize hw : adm w eb seq = w1 at *
  have HW1 : Hid (adm w eb seq = w1) := hw
  clear hw
  go_quiet ((go_at_call 17; exact Calls.quiet_of_same (fix_one qb sa sc _ d0)))
  have hbn : Below w1.heap.size w1 (w1.drewN nq) := below_drawn (Below.refl _ _) _
  have C2 := C1.below hbn
  have hq1 : qb < w1.heap.size := by rw [hS.out]; exact hq
  have he1 : eb < w1.heap.size := World.block_lt_of_cell? _ _ d5
  have T2 : TagAt (w1.drewN nq) qb n f m0 (w1.drewN nq).heap.size := by
    have := T1.below hbn hq1
    rw [← hS.out] at this
    exact this
  have R2 := R1.below hbn
  have d62 : Hid ((w1.drewN nq).cell? ⟨eb, 6, none⟩ = some (.slice ta tags.length tc)) := (hbn.cell he1).trans d6.out
  have HN : Hid (Below w1.heap.size w1 (w1.drewN nq)) := hbn
  have HSN : Hid ((w1.drewN nq).heap.size = w.heap.size) := hS.out
  clear C1 T1 R1 d6 d0 d5 hbn
  go_wp2_with fail
  refine Calls.mono (count_any qb eb m0 counted wide wl e wl' e' ta tags tc n f (w1.drewN nq) h0 h1 g0 g1 C2 hn hl htc hsz hf d62.out heq hem R2 hrq1.out T2) ?_
  rintro r w2 ⟨rfl, hT, hF, hW⟩
  clear C2 T2 R2 d62
  rw [HSN.out] at hT
  have hF2 : Hid (FrQ qb m0 w1 w2) := FrQ.after HN.out hF hq1
  have HT : Hid (TagAt w2 qb (n + tags.length) (aft (counted && sameT wl' e' wl e) f tags) m0 w.heap.size) := hT
  have HW : Hid (∀ D : DataW Unit, Canon D → Sees D (aft (counted && sameT wl' e' wl e) f tags) → w2.cell? ⟨qb, 6, none⟩ = some (.bool (wide || (counted && sameT wl' e' wl e && decide (8 < Maps.size D))))) := hW
  clear hT hF hW
  go_wp2_with fail
  go_end0
  exact ⟨rfl, HT.out, by rw [HW1.out]; exact hF2.out, HW.out⟩
end Go.Proofs.Ybulkblnk
