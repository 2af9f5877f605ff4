/-
  THE CONTRACT of queue.count.
-/
import Derived.Test.YbulkblnkAddWalk
import Derived.Test.YbulkblnkUncount
import Derived.Deep.RegionHeld3
namespace Go.Proofs.Ybulkblnk
open Go.RowKit Go.Maps

theorem TagAt.low {w : World} {qb n B B' : Nat} {f : List UInt8 → Option Int} {m0 : Option Nat} (h : TagAt w qb n f m0 B) (hB : B' ≤ B) : TagAt w qb n f m0 B' := by
  rcases h with h | ⟨b, h1, h2, h3⟩
  · exact Or.inl h
  · exact Or.inr ⟨b, h1, h2, h3.elim Or.inl (fun x => Or.inr (Nat.le_trans hB x))⟩
theorem TagAt.below {w w' : World} {qb n B : Nat} {f : List UInt8 → Option Int} {m0 : Option Nat} (h : TagAt w qb n f m0 B) (hb : Below w.heap.size w w') (hq : qb < w.heap.size) : TagAt w' qb n f m0 B := by
  rcases h with ⟨h1, h2⟩ | ⟨b, h1, h2, h3⟩
  · exact Or.inl ⟨(hb.cell hq).trans h1, h2⟩
  · exact Or.inr ⟨b, (hb.cell hq).trans h1, h2.below hb h2.lt, h3⟩

/-- What count may turn: the fields 5 and 6 of the queue, the map that the field led to, and new memory. -/
structure FrQ (qb : Nat) (m0 : Option Nat) (w w' : World) : Prop where
  os : w'.os = w.os
  tape : w'.tape = w.tape
  output : w'.output = w.output
  size : w.heap.size ≤ w'.heap.size
  block : ∀ i, i < w.heap.size → i ≠ qb → some i ≠ m0 → w'.heap[i]? = w.heap[i]?
  field : ∀ o, o ≠ 5 → o ≠ 6 → w'.cell? ⟨qb, o, none⟩ = w.cell? ⟨qb, o, none⟩
theorem Fr.q {qb : Nat} {m0 : Option Nat} {w w' : World} (h : Fr qb m0 w w') : FrQ qb m0 w w' := ⟨h.os, h.tape, h.output, h.size, h.block, fun o h5 _ => h.field o h5⟩
theorem FrQ.set {qb : Nat} {m0 : Option Nat} {w w1 : World} (h : FrQ qb m0 w w1) (v : Value) : FrQ qb m0 w (w1.setCell ⟨qb, 6, none⟩ v) := by
  refine ⟨h.os, h.tape, h.output, by simpa using h.size, fun i hi h1 h2 => ?_, fun o' h5 h6 => ?_⟩
  · rw [Below.heap_setCell _ _ _ _ h1]; exact h.block i hi h1 h2
  · rw [World.cell?_setCell_other _ _ _ _ (by intro e; injection e with _ e2; exact h6 e2.symm)]; exact h.field o' h5 h6
theorem FrQ.after {qb : Nat} {m0 : Option Nat} {w w1 w2 : World} (hb : Below w.heap.size w w1) (h : FrQ qb m0 w1 w2) (hq : qb < w.heap.size) : FrQ qb m0 w w2 := by
  refine ⟨h.os.trans hb.os, h.tape.trans hb.tape, h.output.trans hb.output, Nat.le_trans hb.size h.size, fun i hi h1 h2 => ?_, fun o h5 h6 => ?_⟩
  · rw [h.block i (Nat.lt_of_lt_of_le hi hb.size) h1 h2]; exact hb.block i hi
  · rw [h.field o h5 h6]; exact hb.cell hq
theorem FrQ.ofBelow {qb : Nat} {m0 : Option Nat} {w w1 : World} (hb : Below w.heap.size w w1) (hq : qb < w.heap.size) : FrQ qb m0 w w1 :=
  FrQ.after hb (Fr.refl qb m0 w1).q hq
theorem FrQ.cell {qb : Nat} {m0 : Option Nat} {w w' : World} (h : FrQ qb m0 w w') {a : Addr} {v : Value} (hc : w.cell? a = some v) (h1 : a.block ≠ qb) (h2 : some a.block ≠ m0) : w'.cell? a = some v :=
  (World.cell?_of_block (h.block a.block (World.block_lt_of_cell? w a hc) h1 h2)).trans hc

/-- The cells of the queue and of the event that are read. -/
structure QC (w : World) (qb eb : Nat) (counted wide : Bool) (wl e wl' e' : Int) : Prop where
  c1 : w.cell? ⟨qb, 1, none⟩ = some (.bool counted)
  c2 : w.cell? ⟨qb, 2, none⟩ = some (.int .u64 wl)
  c3 : w.cell? ⟨qb, 3, none⟩ = some (.int .i64 e)
  c4 : w.cell? ⟨qb, 4, none⟩ = some (.pointer none)
  c6 : w.cell? ⟨qb, 6, none⟩ = some (.bool wide)
  a0 : w.cell? ⟨eb, 0, none⟩ = some (.int .u64 wl')
  a1 : w.cell? ⟨eb, 1, none⟩ = some (.int .i64 e')
  a2 : w.cell? ⟨eb, 2, none⟩ = some (.pointer none)
  a7 : w.cell? ⟨eb, 7, none⟩ = some (.bool false)
  hz5 : w.frozen? ⟨qb, 5, none⟩ = false
  hz6 : w.frozen? ⟨qb, 6, none⟩ = false
theorem QC.below {w w' : World} {qb eb : Nat} {counted wide : Bool} {wl e wl' e' : Int} (C : QC w qb eb counted wide wl e wl' e') (hb : Below w.heap.size w w') : QC w' qb eb counted wide wl e wl' e' := by
  have hq : qb < w.heap.size := World.block_lt_of_cell? _ _ C.c1
  have he : eb < w.heap.size := World.block_lt_of_cell? _ _ C.a7
  exact ⟨(hb.cell hq).trans C.c1, (hb.cell hq).trans C.c2, (hb.cell hq).trans C.c3, (hb.cell hq).trans C.c4, (hb.cell hq).trans C.c6, (hb.cell he).trans C.a0, (hb.cell he).trans C.a1, (hb.cell he).trans C.a2, (hb.cell he).trans C.a7, (hb.frozen hq).trans C.hz5, (hb.frozen hq).trans C.hz6⟩

set_option maxHeartbeats 1000000 in
theorem count_off1 (qb eb : Nat) (wide : Bool) (wl e wl' e' : Int) (w : World) (C : QC w qb eb false wide wl e wl' e') :
    Calls Yba.prog 18 #[.pointer (some ⟨qb, 0, none⟩), .pointer (some ⟨eb, 0, none⟩)] w fun r w' => r = .returned (.tuple #[]) ∧ Below w.heap.size w w' := by
  obtain ⟨c1, c2, c3, c4, c6, a0, a1, a2, a7, hz5, hz6⟩ := C
  go_enter Yba.func18, Yba.ntmps18
  go_wp2
  go_quiet (fail)
  go_wp2
  go_end0
  exact ⟨rfl, below_drawn (Below.refl _ _) _⟩

set_option maxHeartbeats 2000000 in
theorem count_off2 (qb eb : Nat) (wide : Bool) (wl e wl' e' : Int) (w : World) (h0 : 0 ≤ wl) (h1 : wl < 1000000000) (g0 : 0 ≤ wl') (g1 : wl' < 1000000000) (hs : sameT wl' e' wl e = false) (C : QC w qb eb true wide wl e wl' e') :
    Calls Yba.prog 18 #[.pointer (some ⟨qb, 0, none⟩), .pointer (some ⟨eb, 0, none⟩)] w fun r w' => r = .returned (.tuple #[]) ∧ Below w.heap.size w w' := by
  obtain ⟨c1, c2, c3, c4, c6, a0, a1, a2, a7, hz5, hz6⟩ := C
  go_enter Yba.func18, Yba.ntmps18
  go_wp2
  go_region_held3 (fun w' => w'.cell? ⟨qb, 1, none⟩ = some (.bool true) ∧ w'.cell? ⟨qb, 2, none⟩ = some (.int .u64 wl) ∧ w'.cell? ⟨qb, 3, none⟩ = some (.int .i64 e) ∧ w'.cell? ⟨qb, 4, none⟩ = some (.pointer none) ∧ w'.cell? ⟨eb, 0, none⟩ = some (.int .u64 wl') ∧ w'.cell? ⟨eb, 1, none⟩ = some (.int .i64 e') ∧ w'.cell? ⟨eb, 2, none⟩ = some (.pointer none) ∧ w'.cell? ⟨eb, 7, none⟩ = some (.bool false)) (go_keep)
    ((go_at_call 9; refine Calls.mono (equal_any wl' e' wl e _ g0 g1 h0 h1) ?_; rintro r w1 ⟨rfl, rfl⟩))
  all_goals
    go_wp2
    go_end0
    exact ⟨rfl, by repeat (first | exact Below.refl _ _ | refine Below.drew ?_ | (refine Below.alloc ?_ (by first | (simp; done) | (simp; omega)) _))⟩

theorem TagAt.raise {w : World} {qb n : Nat} {f : List UInt8 → Option Int} {m0 : Option Nat} (h : TagAt w qb n f m0 w.heap.size) (B : Nat) : TagAt w qb n f m0 B := by
  rcases h with h | ⟨b, h1, h2, h3⟩
  · exact Or.inl h
  · refine Or.inr ⟨b, h1, h2, Or.inl ?_⟩
    rcases h3 with h3 | h3
    · exact h3
    · have := h2.lt; omega
theorem TagAt.set6 {w : World} {qb n B : Nat} {f : List UInt8 → Option Int} {m0 : Option Nat} (h : TagAt w qb n f m0 B) (v : Value) : TagAt (w.setCell ⟨qb, 6, none⟩ v) qb n f m0 B := by
  have e5 : ∀ {x}, w.cell? ⟨qb, 5, none⟩ = some x → (w.setCell ⟨qb, 6, none⟩ v).cell? ⟨qb, 5, none⟩ = some x := by
    intro x hx
    rw [World.cell?_setCell_other _ _ _ _ (by intro e; injection e with _ e2; omega)]; exact hx
  rcases h with ⟨h1, h2⟩ | ⟨b, h1, ⟨D, ho, hs⟩, h3⟩
  · exact Or.inl ⟨e5 h1, h2⟩
  · exact Or.inr ⟨b, e5 h1, ⟨D, ho.setCell (a := ⟨qb, 6, none⟩) (fun e => (MapIs.ne (a := ⟨qb, 5, none⟩) ⟨D, ho, hs⟩ h1) e.symm) v, hs⟩, h3⟩
theorem size_none {D : DataW Unit} {f : List UInt8 → Option Int} (c : Canon D) (h : Sees D f) (hf : ∀ s, f s = none) : Maps.size D = 0 := by
  rw [h.size c [] List.nodup_nil (fun s hs => by rw [hf] at hs; cases hs)]; rfl

set_option maxRecDepth 100000 in
set_option maxHeartbeats 4000000 in
theorem count_on (qb eb : Nat) (m0 : Option Nat) (wide : Bool) (wl e wl' e' : Int) (ta : Option Addr) (tags : List ByteArray) (tc n : Nat) (f : List UInt8 → Option Int) (w : World) (h0 : 0 ≤ wl) (h1 : wl < 1000000000) (g0 : 0 ≤ wl') (g1 : wl' < 1000000000) (hs : sameT wl' e' wl e = true) (C : QC w qb eb true wide wl e wl' e')
    (hn : n ≤ 1000000) (hl : tags.length ≤ 1000000) (htc : tags.length ≤ tc) (hsz : ∀ s ∈ tags, s.size ≤ maxLen) (hf : ∀ s, 0 ≤ (f s).getD 0 ∧ (f s).getD 0 ≤ 1000000)
    (hcell : w.cell? ⟨eb, 6, none⟩ = some (.slice ta tags.length tc)) (heq : eb ≠ qb) (hem : some eb ≠ m0) (R : Row w ta tags) (hrq : ∀ b off, ta = some ⟨b, off, none⟩ → b ≠ qb ∧ some b ≠ m0)
    (T : TagAt w qb n f m0 w.heap.size) :
    Calls Yba.prog 18 #[.pointer (some ⟨qb, 0, none⟩), .pointer (some ⟨eb, 0, none⟩)] w fun r w' => r = .returned (.tuple #[]) ∧ TagAt w' qb (n + tags.length) (incTo f tags tags.length) m0 w.heap.size ∧ FrQ qb m0 w w' ∧
      (∀ D : DataW Unit, Canon D → Sees D (incTo f tags tags.length) → w'.cell? ⟨qb, 6, none⟩ = some (.bool (wide || decide (8 < Maps.size D)))) := by
  have hq : qb < w.heap.size := World.block_lt_of_cell? _ _ C.c1
  have he : eb < w.heap.size := World.block_lt_of_cell? _ _ C.a7
  have HCE : Hid (w.cell? ⟨eb, 6, none⟩ = some (.slice ta tags.length tc)) := hcell
  have HSZ : Hid (∀ s ∈ tags, s.size ≤ maxLen) := hsz
  have HF : Hid (∀ s, 0 ≤ (f s).getD 0 ∧ (f s).getD 0 ≤ 1000000) := hf
  have HRQ : Hid (∀ b off, ta = some ⟨b, off, none⟩ → b ≠ qb ∧ some b ≠ m0) := hrq
  have CC := C
  obtain ⟨c1, c2, c3, c4, c6, a0, a1, a2, a7, hz5, hz6⟩ := C
  clear hcell hsz hf hrq
  go_enter Yba.func18, Yba.ntmps18
  go_wp2
  go_region_held3 (fun w' => w'.cell? ⟨qb, 1, none⟩ = some (.bool true) ∧ w'.cell? ⟨qb, 2, none⟩ = some (.int .u64 wl) ∧ w'.cell? ⟨qb, 3, none⟩ = some (.int .i64 e) ∧ w'.cell? ⟨qb, 4, none⟩ = some (.pointer none) ∧ w'.cell? ⟨eb, 0, none⟩ = some (.int .u64 wl') ∧ w'.cell? ⟨eb, 1, none⟩ = some (.int .i64 e') ∧ w'.cell? ⟨eb, 2, none⟩ = some (.pointer none) ∧ w'.cell? ⟨eb, 7, none⟩ = some (.bool false)) (go_keep)
    ((go_at_call 9; refine Calls.mono (equal_any wl' e' wl e _ g0 g1 h0 h1) ?_; rintro r w1 ⟨rfl, rfl⟩))
  all_goals
    clear c1 c2 c3 c4 c6 a0 a1 a2 a7 hz5 hz6
    go_wp2_with fail
    generalize hgen : World.drew _ = w1
    have hb1 : Below w.heap.size w w1 := by
      rw [← hgen]
      repeat (first | exact Below.refl _ _ | refine Below.drew ?_ | (refine Below.alloc ?_ (by first | (simp; done) | (simp; omega)) _))
    clear hgen
    have C1 := CC.below hb1
    have hq1 : qb < w1.heap.size := Nat.lt_of_lt_of_le hq hb1.size
    refine Calls.mono (add_tags qb eb m0 ta tags tc n f w1 hn hl htc HSZ.out HF.out ((hb1.cell he).trans HCE.out) heq hem (R.below hb1) HRQ.out hq1 C1.hz5 ((T.raise _).below hb1 hq)) ?_
    rintro r w2 ⟨rfl, hT2, hF2⟩
    have c6 : w2.cell? ⟨qb, 6, none⟩ = some (.bool wide) := (hF2.field 6 (by omega)).trans C1.c6
    have hz6 : w2.frozen? ⟨qb, 6, none⟩ = false := (hF2.frozen 6).trans C1.hz6
    have HQ : Hid (∀ v, FrQ qb m0 w (w2.setCell ⟨qb, 6, none⟩ v)) := fun v => FrQ.after hb1 (hF2.q.set v) hq
    have HT : Hid (∀ v, TagAt (w2.setCell ⟨qb, 6, none⟩ v) qb (n + tags.length) (incTo f tags tags.length) m0 w.heap.size) := fun v => (hT2.low hb1.size).set6 v
    clear C1 hF2 HCE HSZ HF HRQ R T CC hb1
    cases wide with
    | true =>
      clear hT2
      go_wp2_with fail
      go_end0
      exact ⟨rfl, HT.out _, HQ.out _, fun D _ _ => (World.cell?_setCell_same _ _ _ c6).trans rfl⟩
    | false =>
      rcases hT2 with ⟨c5, hnone⟩ | ⟨b, c5, ⟨D, hown, hsees⟩, hok⟩
      · have HN : Hid (∀ s, incTo f tags tags.length s = none) := hnone
        clear hnone
        go_wp2_with fail
        go_end0
        exact ⟨rfl, HT.out _, HQ.out _, fun D hc hS => by rw [World.cell?_setCell_same _ _ _ c6, size_none hc hS HN.out]; rfl⟩
      · have HD : Hid (Sees D (incTo f tags tags.length) ∧ Canon D) := ⟨hsees, hown.canon law⟩
        clear hsees hok
        have hlen := hown.len Yba.underlying25 3
        go_wp2_with fail
        all_goals
          go_end0
          exact ⟨rfl, HT.out _, HQ.out _, fun D' hc hS => by
            rw [World.cell?_setCell_same _ _ _ c6, hS.same HD.out.1 hc HD.out.2]
            refine congrArg some (congrArg Value.bool ?_)
            rw [Bool.false_or]
            exact decide_eq_decide.2 (by omega)⟩

/-- What is counted behind it. -/
def aft (on : Bool) (f : List UInt8 → Option Int) (tags : List ByteArray) (s : List UInt8) : Option Int := if on then incTo f tags tags.length s else f s

/-- Whether count counts; what it leaves. -/
theorem count_any (qb eb : Nat) (m0 : Option Nat) (counted wide : Bool) (wl e wl' e' : Int) (ta : Option Addr) (tags : List ByteArray) (tc n : Nat) (f : List UInt8 → Option Int) (w : World) (h0 : 0 ≤ wl) (h1 : wl < 1000000000) (g0 : 0 ≤ wl') (g1 : wl' < 1000000000) (C : QC w qb eb counted wide wl e wl' e')
    (hn : n ≤ 1000000) (hl : tags.length ≤ 1000000) (htc : tags.length ≤ tc) (hsz : ∀ s ∈ tags, s.size ≤ maxLen) (hf : ∀ s, 0 ≤ (f s).getD 0 ∧ (f s).getD 0 ≤ 1000000)
    (hcell : w.cell? ⟨eb, 6, none⟩ = some (.slice ta tags.length tc)) (heq : eb ≠ qb) (hem : some eb ≠ m0) (R : Row w ta tags) (hrq : ∀ b off, ta = some ⟨b, off, none⟩ → b ≠ qb ∧ some b ≠ m0)
    (T : TagAt w qb n f m0 w.heap.size) :
    Calls Yba.prog 18 #[.pointer (some ⟨qb, 0, none⟩), .pointer (some ⟨eb, 0, none⟩)] w fun r w' => r = .returned (.tuple #[]) ∧
      TagAt w' qb (n + tags.length) (aft (counted && sameT wl' e' wl e) f tags) m0 w.heap.size ∧ FrQ qb m0 w w' ∧
      (∀ D : DataW Unit, Canon D → Sees D (aft (counted && sameT wl' e' wl e) f tags) → w'.cell? ⟨qb, 6, none⟩ = some (.bool (wide || (counted && sameT wl' e' wl e && decide (8 < Maps.size D))))) := by
  have hq : qb < w.heap.size := World.block_lt_of_cell? _ _ C.c1
  cases counted with
  | false =>
    refine (count_off1 qb eb wide wl e wl' e' w C).mono fun r w' ⟨hr, hb⟩ => ⟨hr, ?_, FrQ.ofBelow hb hq, fun D _ _ => ?_⟩
    · exact ((T.below hb hq).mono (by omega)).congr (fun s => by simp [aft])
    · rw [hb.cell hq, C.c6]; simp
  | true =>
    cases hs : sameT wl' e' wl e with
    | false =>
      refine (count_off2 qb eb wide wl e wl' e' w h0 h1 g0 g1 hs C).mono fun r w' ⟨hr, hb⟩ => ⟨hr, ?_, FrQ.ofBelow hb hq, fun D _ _ => ?_⟩
      · exact ((T.below hb hq).mono (by omega)).congr (fun s => by simp [aft])
      · rw [hb.cell hq, C.c6]; simp
    | true =>
      refine (count_on qb eb m0 wide wl e wl' e' ta tags tc n f w h0 h1 g0 g1 hs C hn hl htc hsz hf hcell heq hem R hrq T).mono fun r w' ⟨hr, hT, hF, hW⟩ => ⟨hr, ?_, hF, fun D hc hS => ?_⟩
      · exact hT.congr (fun s => by simp [aft])
      · rw [hW D hc (hS.congr (fun s => by simp [aft]))]; simp
end Go.Proofs.Ybulkblnk
