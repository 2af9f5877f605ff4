/-
  THE TAKING-IN, CALLED AS THE LAW CALLS IT: a line of one event, all three blocks the law's own.
-/
import Derived.Test.YbulkblnkPre
namespace Go.Proofs.Ybulkblnk
open Go.RowKit Go.Maps

def EV (aw ae sq : Int) (g nt : Nat) : Array Value := #[.int .u64 aw, .int .i64 ae, .pointer none, .pointer none, .int .u64 sq, .int .i64 0, .slice (some ⟨g, 0, none⟩) nt nt, .bool true, .nilIface, .nilIface, .chan none, .int .i64 0, .pointer none]
def QU (eb : Nat) (counted : Bool) (iw ie : Int) (m0 : Option Nat) (wide : Bool) : Array Value := #[.slice (some ⟨eb + 1, 0, none⟩) 1 1, .bool counted, .int .u64 iw, .int .i64 ie, .pointer none, .map m0, .bool wide]
def W3 (w6 : World) (aw ae sq : Int) (g nt : Nat) (counted : Bool) (iw ie : Int) (m0 : Option Nat) (wide : Bool) : World :=
  ((w6.alloc (.cells (EV aw ae sq g nt) 46)).alloc (.cells #[.pointer (some ⟨w6.heap.size, 0, none⟩)] 35)).alloc (.cells (QU w6.heap.size counted iw ie m0 wide) 51)

/-- What stands behind the call. -/
structure AFT (w9 w : World) (eb qb ab ib g xb nt np : Nat) (seq aw ae iw ie : Int) (counted wide on : Bool) (tags pre : List ByteArray) : Prop where
  e0 : w9.cell? ⟨eb, 0, none⟩ = some (.int .u64 aw)
  e1 : w9.cell? ⟨eb, 1, none⟩ = some (.int .i64 ae)
  e2 : w9.cell? ⟨eb, 2, none⟩ = some (.pointer none)
  e4 : w9.cell? ⟨eb, 4, none⟩ = some (.int .u64 seq)
  e5 : w9.cell? ⟨eb, 5, none⟩ = some (.int .i64 0)
  e6 : w9.cell? ⟨eb, 6, none⟩ = some (.slice (some ⟨g, 0, none⟩) nt nt)
  e7 : w9.cell? ⟨eb, 7, none⟩ = some (.bool false)
  s0 : w9.cell? ⟨eb + 1, 0, none⟩ = some (.pointer (some ⟨eb, 0, none⟩))
  c0 : w9.cell? ⟨qb, 0, none⟩ = some (.slice (some ⟨eb + 1, 0, none⟩) 1 1)
  c1 : w9.cell? ⟨qb, 1, none⟩ = some (.bool counted)
  c2 : w9.cell? ⟨qb, 2, none⟩ = some (.int .u64 iw)
  c3 : w9.cell? ⟨qb, 3, none⟩ = some (.int .i64 ie)
  c4 : w9.cell? ⟨qb, 4, none⟩ = some (.pointer none)
  tag : ∃ m1, w9.cell? ⟨qb, 5, none⟩ = some (.map m1) ∧ ((m1 = none ∧ ∀ s, aft on (preTo pre np) tags s = none) ∨ ∃ b, m1 = some b ∧ b ≠ xb ∧ MapIs w9 b (np + nt) (aft on (preTo pre np) tags))
  wd : ∀ D : DataW Unit, Canon D → Sees D (aft on (preTo pre np) tags) → w9.cell? ⟨qb, 6, none⟩ = some (.bool (wide || (on && decide (8 < Maps.size D))))
  row : Row w9 (some ⟨g, 0, none⟩) tags
  tm : TM w9 ab ib aw ae iw ie
  x : MapIs w9 xb np (preTo pre np)
  below : Below w.heap.size w w9

theorem W3_size {w6 : World} {aw ae sq : Int} {g nt : Nat} {counted : Bool} {iw ie : Int} {m0 : Option Nat} {wide : Bool} : (W3 w6 aw ae sq g nt counted iw ie m0 wide).heap.size = w6.heap.size + 1 + 1 + 1 := by simp [W3]
theorem W3_e {w6 : World} {aw ae sq : Int} {g nt : Nat} {counted : Bool} {iw ie : Int} {m0 : Option Nat} {wide : Bool} : (W3 w6 aw ae sq g nt counted iw ie m0 wide).heap[w6.heap.size]? = some (.cells (EV aw ae sq g nt) 46) := by
  unfold W3
  rw [heap_alloc_old _ _ (by simp; omega), heap_alloc_old _ _ (by simp), heap_alloc_new]
theorem W3_s {w6 : World} {aw ae sq : Int} {g nt : Nat} {counted : Bool} {iw ie : Int} {m0 : Option Nat} {wide : Bool} : (W3 w6 aw ae sq g nt counted iw ie m0 wide).heap[w6.heap.size + 1]? = some (.cells #[.pointer (some ⟨w6.heap.size, 0, none⟩)] 35) := by
  unfold W3
  rw [heap_alloc_old _ _ (by simp)]
  have := heap_alloc_new (w6.alloc (.cells (EV aw ae sq g nt) 46)) (.cells #[.pointer (some ⟨w6.heap.size, 0, none⟩)] 35)
  rw [World.size_alloc] at this
  exact this
theorem W3_q {w6 : World} {aw ae sq : Int} {g nt : Nat} {counted : Bool} {iw ie : Int} {m0 : Option Nat} {wide : Bool} : (W3 w6 aw ae sq g nt counted iw ie m0 wide).heap[w6.heap.size + 1 + 1]? = some (.cells (QU w6.heap.size counted iw ie m0 wide) 51) := by
  unfold W3
  have := heap_alloc_new ((w6.alloc (.cells (EV aw ae sq g nt) 46)).alloc (.cells #[.pointer (some ⟨w6.heap.size, 0, none⟩)] 35)) (.cells (QU w6.heap.size counted iw ie m0 wide) 51)
  rw [World.size_alloc, World.size_alloc] at this
  exact this
theorem W3_below {w6 : World} {aw ae sq : Int} {g nt : Nat} {counted : Bool} {iw ie : Int} {m0 : Option Nat} {wide : Bool} : Below w6.heap.size w6 (W3 w6 aw ae sq g nt counted iw ie m0 wide) :=
  (((Below.refl _ _).alloc (Nat.le_refl _) _).alloc (by simp) _).alloc (by simp; omega) _

theorem admit_here (w w6 : World) (ab ib g xb nt np : Nat) (m0 : Option Nat) (seq sq aw ae iw ie : Int) (counted wide : Bool) (tags pre : List ByteArray) (r0 : 0 ≤ iw) (r1 : iw < 1000000000) (w0 : 0 ≤ aw) (w1 : aw < 1000000000)
    (et : tags.length = nt) (mt : nt ≤ 1024) (mp : np ≤ 1024) (st : ∀ s ∈ tags, s.size ≤ maxLen) (hR : Row w6 (some ⟨g, 0, none⟩) tags) (hX : MapIs w6 xb np (preTo pre np)) (hM : (m0 = none ∧ ∀ s, preTo pre np s = none) ∨ (m0 = some (xb + 1) ∧ MapIs w6 (xb + 1) np (preTo pre np)))
    (hT : TM w6 ab ib aw ae iw ie) (hB : Below w.heap.size w w6) (hg : g < w6.heap.size) (hgx : xb + 1 < g ∨ (m0 = none ∧ xb < g)) (hwx : w.heap.size ≤ xb) (hab : ab < xb) (hib : ib < xb) :
    Calls Yba.prog 10 #[.pointer (some ⟨w6.heap.size + 1 + 1, 0, none⟩), .pointer (some ⟨w6.heap.size, 0, none⟩), .int .u64 seq] (W3 w6 aw ae sq g nt counted iw ie m0 wide) fun r w9 => r = .returned (.tuple #[]) ∧
      AFT w9 w w6.heap.size (w6.heap.size + 1 + 1) ab ib g xb nt np seq aw ae iw ie counted wide (counted && sameT aw ae iw ie) tags pre := by
  have hxg : xb < g := by omega
  have hm : ∀ b, some b = m0 → b = xb + 1 ∧ xb + 1 < g := by
    intro b hb
    rcases hM with ⟨h, _⟩ | ⟨h, _⟩
    · rw [h] at hb; cases hb
    · rw [h] at hb; cases hb
      refine ⟨rfl, ?_⟩
      rcases hgx with h' | ⟨h', _⟩
      · exact h'
      · rw [h] at h'; cases h'
  have hE := fun j v (h : (EV aw ae sq g nt)[j]? = some v) => (cell_of_row (W3 w6 aw ae sq g nt counted iw ie m0 wide) w6.heap.size j _ _ _ W3_e).trans h
  have hQ := fun j v (h : (QU w6.heap.size counted iw ie m0 wide)[j]? = some v) => (cell_of_row (W3 w6 aw ae sq g nt counted iw ie m0 wide) (w6.heap.size + 1 + 1) j _ _ _ W3_q).trans h
  have hS : (W3 w6 aw ae sq g nt counted iw ie m0 wide).cell? ⟨w6.heap.size + 1, 0, none⟩ = some (.pointer (some ⟨w6.heap.size, 0, none⟩)) := (cell_of_row (W3 w6 aw ae sq g nt counted iw ie m0 wide) (w6.heap.size + 1) 0 _ _ _ W3_s).trans rfl
  have hb3 : Below w6.heap.size w6 (W3 w6 aw ae sq g nt counted iw ie m0 wide) := W3_below
  have hT3 : TagAt (W3 w6 aw ae sq g nt counted iw ie m0 wide) (w6.heap.size + 1 + 1) np (preTo pre np) m0 (W3 w6 aw ae sq g nt counted iw ie m0 wide).heap.size := by
    rcases hM with ⟨h, hn⟩ | ⟨h, hm'⟩
    · exact Or.inl ⟨by rw [hQ 5 _ rfl, h]; rfl, hn⟩
    · exact Or.inr ⟨xb + 1, by rw [hQ 5 _ rfl, h]; rfl, hm'.below hb3 hm'.lt, Or.inl h.symm⟩
  have hR3 : Row (W3 w6 aw ae sq g nt counted iw ie m0 wide) (some ⟨g, 0, none⟩) tags := hR.below hb3
  have fz : ∀ b o, b < (W3 w6 aw ae sq g nt counted iw ie m0 wide).heap.size → w6.heap.size ≤ b → (W3 w6 aw ae sq g nt counted iw ie m0 wide).frozen? ⟨b, o, none⟩ = false := by
    intro b o h1 h2
    rw [W3_size] at h1
    have : b = w6.heap.size ∨ b = w6.heap.size + 1 ∨ b = w6.heap.size + 1 + 1 := by omega
    rcases this with rfl | rfl | rfl
    · simp [World.frozen?, W3_e]
    · simp [World.frozen?, W3_s]
    · simp [World.frozen?, W3_q]
  have sz := @W3_size w6 aw ae sq g nt counted iw ie m0 wide
  refine Calls.mono (admit_any (w6.heap.size + 1 + 1) w6.heap.size m0 counted wide iw ie aw ae seq _ 1 _ _ (some ⟨g, 0, none⟩) tags nt np (preTo pre np) _ r0 r1 w0 w1 (by omega) (by omega) (by omega) st (fun s => ⟨(preTo_bound pre np s).1, by have := (preTo_bound pre np s).2; omega⟩)
    (hQ 0 _ rfl) (hQ 1 _ rfl) (hQ 2 _ rfl) (hQ 3 _ rfl) (hQ 4 _ rfl) (hQ 6 _ rfl) (hE 0 _ rfl) (hE 1 _ rfl) (hE 2 _ rfl) (hE 4 _ rfl) (hE 5 _ rfl) (by rw [et]; exact hE 6 _ rfl) (hE 7 _ rfl) (fz _ _ (by omega) (by omega)) (fz _ _ (by omega) (by omega)) (fz _ _ (by omega) (by omega)) (fz _ _ (by omega) (by omega))
    (by omega) (fun h => by have := hm _ h; omega) hR3 (fun b off h => by cases h; refine ⟨by omega, by omega, fun h => ?_⟩; have := hm _ h; omega) hT3) ?_
  rintro r w9 ⟨rfl, hTag, hF, hW⟩
  refine ⟨rfl, ?_⟩
  generalize hw3 : W3 w6 aw ae sq g nt counted iw ie m0 wide = w3 at *
  have field : ∀ o v, o ≠ 5 → o ≠ 6 → w3.cell? ⟨w6.heap.size + 1 + 1, o, none⟩ = some v → w9.cell? ⟨w6.heap.size + 1 + 1, o, none⟩ = some v := by
    intro o v h5 h6 hv
    rw [hF.field o h5 h6, adm_other (by show w6.heap.size + 1 + 1 ≠ w6.heap.size; omega)]
    exact hv
  have evf : ∀ o v, (adm w3 w6.heap.size seq).cell? ⟨w6.heap.size, o, none⟩ = some v → w9.cell? ⟨w6.heap.size, o, none⟩ = some v := by
    intro o v hv
    exact hF.cell hv (by show w6.heap.size ≠ _; omega) (fun h => by have := hm w6.heap.size h; omega)
  have old : ∀ b, b < w3.heap.size → b ≠ w6.heap.size → b ≠ w6.heap.size + 1 + 1 → some b ≠ m0 → w9.heap[b]? = w3.heap[b]? := by
    intro b h1 h2 h3 h4
    rw [hF.block b (by rw [adm_size]; exact h1) h3 h4]
    unfold adm
    rw [Below.heap_setCell _ _ _ _ h2, Below.heap_setCell _ _ _ _ h2]
  have hs3 : w3.heap.size = w6.heap.size + 1 + 1 + 1 := sz
  have hsz9 : w3.heap.size ≤ w9.heap.size := by have := hF.size; rw [adm_size] at this; exact this
  have hb9 : Below w.heap.size w3 w9 := ⟨hF.os, hF.tape, hF.output, hsz9, fun k hk => old k (by omega) (by omega) (by omega) (fun h => by have := hm k h; omega)⟩
  have hxl := hX.lt
  exact
    { e0 := evf 0 _ ((adm_field (by omega) (by omega)).trans (hE 0 _ rfl))
      e1 := evf 1 _ ((adm_field (by omega) (by omega)).trans (hE 1 _ rfl))
      e2 := evf 2 _ ((adm_field (by omega) (by omega)).trans (hE 2 _ rfl))
      e4 := evf 4 _ (adm_4 (hE 4 _ rfl))
      e5 := evf 5 _ ((adm_field (by omega) (by omega)).trans (hE 5 _ rfl))
      e6 := evf 6 _ ((adm_field (by omega) (by omega)).trans (hE 6 _ rfl))
      e7 := evf 7 _ (adm_7 (hE 7 _ rfl))
      s0 := (World.cell?_of_block (old (w6.heap.size + 1) (by omega) (by omega) (by omega) (fun h => by have := hm (w6.heap.size + 1) h; omega))).trans hS
      c0 := field 0 _ (by omega) (by omega) (hQ 0 _ rfl)
      c1 := field 1 _ (by omega) (by omega) (hQ 1 _ rfl)
      c2 := field 2 _ (by omega) (by omega) (hQ 2 _ rfl)
      c3 := field 3 _ (by omega) (by omega) (hQ 3 _ rfl)
      c4 := field 4 _ (by omega) (by omega) (hQ 4 _ rfl)
      tag := by
        rw [et] at hTag
        rcases hTag with ⟨h1, h2⟩ | ⟨b, h1, h2, h3⟩
        · exact ⟨none, h1, Or.inl ⟨rfl, h2⟩⟩
        · refine ⟨some b, h1, Or.inr ⟨b, rfl, ?_, h2⟩⟩
          rcases h3 with h3 | h3
          · have := hm b h3; omega
          · omega
      wd := hW
      row := by
        rcases hR3 with h | ⟨b, off, e, hc⟩
        · exact Or.inl h
        · cases e
          exact Or.inr ⟨g, 0, rfl, fun i hi => (World.cell?_of_block (old g (by omega) (by omega) (by omega) (fun h => by have := hm g h; omega))).trans (hc i hi)⟩
      tm := hT.cells (fun o => (World.cell?_of_block (old ab (by omega) (by omega) (by omega) (fun h => by have := hm ab h; omega))).trans (hb3.cell (by show ab < _; omega))) (fun o => (World.cell?_of_block (old ib (by omega) (by omega) (by omega) (fun h => by have := hm ib h; omega))).trans (hb3.cell (by show ib < _; omega)))
      x := (hX.below hb3 hxl).ofBlock (old xb (by omega) (by omega) (by omega) (fun h => by have := hm xb h; omega))
      below := (hB.trans (hb3.mono hB.size)).trans hb9 }
end Go.Proofs.Ybulkblnk
