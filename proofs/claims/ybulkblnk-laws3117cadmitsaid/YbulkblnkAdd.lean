/-
  THE CONTRACT of tagCount.add (through the field q.tagged).
-/
import Derived.Test.YbulkblnkRemove
namespace Go.Proofs.Ybulkblnk
open Go.RowKit Go.Maps

/-- One count more. -/
def inc1 (o : Option Int) : Option Int := some (o.getD 0 + 1)
/-- What add leaves behind the first k tags. -/
def incTo (f : List UInt8 → Option Int) (tags : List ByteArray) (k : Nat) (s : List UInt8) : Option Int := if hasL (tags.take k) s then inc1 (f s) else f s
theorem incTo_zero (f : List UInt8 → Option Int) (tags : List ByteArray) (s : List UInt8) : f s = incTo f tags 0 s := rfl
theorem incTo_dup {f : List UInt8 → Option Int} {tags : List ByteArray} {k : Nat} (hk : k < tags.length) (hd : hasL (tags.take k) tags[k].data.toList = true) (s : List UInt8) : incTo f tags k s = incTo f tags (k + 1) s := by
  unfold incTo
  rw [hasL_step tags k hk]
  by_cases e : tags[k].data.toList = s
  · rw [← e, hd]; rfl
  · rw [beq_eq_false_iff_ne.2 e, Bool.or_false]
theorem incTo_new {f : List UInt8 → Option Int} {tags : List ByteArray} {k : Nat} {c : Int} (hk : k < tags.length) (hd : hasL (tags.take k) tags[k].data.toList = false) (hc : (f tags[k].data.toList).getD 0 = c) (s : List UInt8) :
    upd (incTo f tags k) tags[k].data.toList (some (c + 1)) s = incTo f tags (k + 1) s := by
  unfold upd
  by_cases e : s = tags[k].data.toList
  · rw [if_pos e]
    unfold incTo
    rw [hasL_step tags k hk, e, hd]
    simp [inc1, hc]
  · rw [if_neg e]
    unfold incTo
    rw [hasL_step tags k hk, beq_eq_false_iff_ne.2 (fun h => e h.symm), Bool.or_false]
theorem incTo_at {f : List UInt8 → Option Int} {tags : List ByteArray} {k : Nat} {s : List UInt8} (hd : hasL (tags.take k) s = false) : incTo f tags k s = f s := by
  unfold incTo; rw [hd]; rfl

/-- What add may turn: the field at ⟨qb, 5⟩, the map that it led to, and new memory. -/
structure Fr (qb : Nat) (m0 : Option Nat) (w w' : World) : Prop where
  os : w'.os = w.os
  tape : w'.tape = w.tape
  output : w'.output = w.output
  size : w.heap.size ≤ w'.heap.size
  block : ∀ i, i < w.heap.size → i ≠ qb → some i ≠ m0 → w'.heap[i]? = w.heap[i]?
  field : ∀ o, o ≠ 5 → w'.cell? ⟨qb, o, none⟩ = w.cell? ⟨qb, o, none⟩
  frozen : ∀ o, w'.frozen? ⟨qb, o, none⟩ = w.frozen? ⟨qb, o, none⟩

theorem Fr.refl (qb : Nat) (m0 : Option Nat) (w : World) : Fr qb m0 w w := ⟨rfl, rfl, rfl, Nat.le_refl _, fun _ _ _ _ => rfl, fun _ _ => rfl, fun _ => rfl⟩
theorem Fr.cell {qb : Nat} {m0 : Option Nat} {w w' : World} (h : Fr qb m0 w w') {a : Addr} {v : Value} (hc : w.cell? a = some v) (h1 : a.block ≠ qb) (h2 : some a.block ≠ m0) : w'.cell? a = some v :=
  (World.cell?_of_block (h.block a.block (World.block_lt_of_cell? w a hc) h1 h2)).trans hc
/-- A step that turns one map alone: the first one, or one that is new. -/
theorem Fr.turn {qb b : Nat} {m0 : Option Nat} {w w1 w2 : World} (h : Fr qb m0 w w1) (hg : w1.grownBy w2 (some b)) (hq : qb < w1.heap.size) (hb : qb ≠ b) (ho : some b = m0 ∨ w.heap.size ≤ b) : Fr qb m0 w w2 := by
  have hblk : w2.heap[qb]? = w1.heap[qb]? := hg.block qb hq (fun e => hb (Option.some.inj e))
  refine ⟨hg.os.trans h.os, hg.tape.trans h.tape, hg.output.trans h.output, Nat.le_trans h.size hg.size, fun i hi h1 h2 => ?_, fun o ho' => ?_, fun o => ?_⟩
  · rw [hg.block i (Nat.lt_of_lt_of_le hi h.size) (fun e => ?_)]
    · exact h.block i hi h1 h2
    · rcases ho with ho | ho
      · exact h2 (e.trans ho)
      · have := Option.some.inj e; omega
  · exact (World.cell?_of_block hblk).trans (h.field o ho')
  · exact (World.frozen?_of_block hblk).trans (h.frozen o)
/-- A new block. -/
theorem Fr.alloc {qb : Nat} {m0 : Option Nat} {w w1 : World} (h : Fr qb m0 w w1) (hq : qb < w1.heap.size) (o : Obj) : Fr qb m0 w (w1.alloc o) := by
  have hblk : (w1.alloc o).heap[qb]? = w1.heap[qb]? := heap_alloc_old w1 o hq
  refine ⟨h.os, h.tape, h.output, Nat.le_trans h.size (by simp), fun i hi h1 h2 => ?_, fun o' ho' => ?_, fun o' => ?_⟩
  · rw [heap_alloc_old w1 o (Nat.lt_of_lt_of_le hi h.size)]; exact h.block i hi h1 h2
  · exact (World.cell?_of_block hblk).trans (h.field o' ho')
  · exact (World.frozen?_of_block hblk).trans (h.frozen o')
/-- The field itself. -/
theorem Fr.set {qb : Nat} {m0 : Option Nat} {w w1 : World} (h : Fr qb m0 w w1) (v : Value) : Fr qb m0 w (w1.setCell ⟨qb, 5, none⟩ v) := by
  refine ⟨h.os, h.tape, h.output, by simpa using h.size, fun i hi h1 h2 => ?_, fun o' ho' => ?_, fun o' => ?_⟩
  · rw [Below.heap_setCell _ _ _ _ h1]; exact h.block i hi h1 h2
  · rw [World.cell?_setCell_other _ _ _ _ (by intro e; injection e with _ e2; exact ho' e2.symm)]; exact h.field o' ho'
  · rw [World.frozen?_setCell]; exact h.frozen o'
theorem Fr.trans {qb : Nat} {m0 : Option Nat} {w w1 w2 : World} (h : Fr qb m0 w w1) (hb : Below w1.heap.size w1 w2) (hq : qb < w1.heap.size) : Fr qb m0 w w2 := by
  have hblk := hb.block qb hq
  refine ⟨hb.os.trans h.os, hb.tape.trans h.tape, hb.output.trans h.output, Nat.le_trans h.size hb.size, fun i hi h1 h2 => ?_, fun o' ho' => ?_, fun o' => ?_⟩
  · rw [hb.block i (Nat.lt_of_lt_of_le hi h.size)]; exact h.block i hi h1 h2
  · exact (World.cell?_of_block hblk).trans (h.field o' ho')
  · exact (World.frozen?_of_block hblk).trans (h.frozen o')

/-- The field leads to a map that is seen as f: nil, and f answers nowhere; or a map, the first one or a new one. -/
def TagAt (w : World) (qb n : Nat) (f : List UInt8 → Option Int) (m0 : Option Nat) (B : Nat) : Prop :=
  (w.cell? ⟨qb, 5, none⟩ = some (.map none) ∧ ∀ s, f s = none) ∨ ∃ b, w.cell? ⟨qb, 5, none⟩ = some (.map (some b)) ∧ MapIs w b n f ∧ (some b = m0 ∨ B ≤ b)
theorem TagAt.congr {w : World} {qb n B : Nat} {f g : List UInt8 → Option Int} {m0 : Option Nat} (h : TagAt w qb n f m0 B) (e : ∀ s, f s = g s) : TagAt w qb n g m0 B := by
  rcases h with ⟨h1, h2⟩ | ⟨b, h1, h2, h3⟩
  · exact Or.inl ⟨h1, fun s => (e s).symm.trans (h2 s)⟩
  · exact Or.inr ⟨b, h1, h2.congr e, h3⟩
theorem TagAt.mono {w : World} {qb n m B : Nat} {f : List UInt8 → Option Int} {m0 : Option Nat} (h : TagAt w qb n f m0 B) (hm : n ≤ m) : TagAt w qb m f m0 B := by
  rcases h with h | ⟨b, h1, h2, h3⟩
  · exact Or.inl h
  · exact Or.inr ⟨b, h1, h2.mono hm, h3⟩
end Go.Proofs.Ybulkblnk
