/-
  WHAT LawS3117CAdmit COUNTS BEFOREHAND; THE TWO TIMES.
-/
import Derived.Test.YbulkblnkAdmit
namespace Go.Proofs.Ybulkblnk
open Go.RowKit Go.Maps

/-- The first k tags, counted one by one. -/
def preTo (tags : List ByteArray) : Nat → List UInt8 → Option Int
  | 0 => fun _ => none
  | k + 1 => upd (preTo tags k) (tags.getD k ByteArray.empty).data.toList (some ((preTo tags k (tags.getD k ByteArray.empty).data.toList).getD 0 + 1))
theorem preTo_step {tags : List ByteArray} {k : Nat} {c : Int} (hk : k < tags.length) (hc : (preTo tags k tags[k].data.toList).getD 0 = c) (s : List UInt8) :
    upd (preTo tags k) tags[k].data.toList (some (c + 1)) s = preTo tags (k + 1) s := by
  have e : tags.getD k ByteArray.empty = tags[k] := by simp [List.getD, List.getElem?_eq_getElem hk]
  show _ = upd (preTo tags k) (tags.getD k ByteArray.empty).data.toList _ s
  rw [e, hc]
theorem preTo_bound (tags : List ByteArray) : ∀ (k : Nat) (s : List UInt8), 0 ≤ (preTo tags k s).getD 0 ∧ (preTo tags k s).getD 0 ≤ k
  | 0, _ => ⟨by simp [preTo], by simp [preTo]⟩
  | k + 1, s => by
    have h := preTo_bound tags k
    have e0 : preTo tags (k + 1) s = upd (preTo tags k) (tags.getD k ByteArray.empty).data.toList (some ((preTo tags k (tags.getD k ByteArray.empty).data.toList).getD 0 + 1)) s := rfl
    rw [e0]
    unfold upd
    by_cases e : s = (tags.getD k ByteArray.empty).data.toList
    · rw [if_pos e]
      have := h (tags.getD k ByteArray.empty).data.toList
      simp only [Option.getD_some]
      omega
    · rw [if_neg e]
      have := h s
      omega

/-- The cells of the two times. -/
structure TM (w : World) (ab ib : Nat) (aw ae iw ie : Int) : Prop where
  a0 : w.cell? ⟨ab, 0, none⟩ = some (.int .u64 aw)
  a1 : w.cell? ⟨ab, 1, none⟩ = some (.int .i64 ae)
  a2 : w.cell? ⟨ab, 2, none⟩ = some (.pointer none)
  i0 : w.cell? ⟨ib, 0, none⟩ = some (.int .u64 iw)
  i1 : w.cell? ⟨ib, 1, none⟩ = some (.int .i64 ie)
  i2 : w.cell? ⟨ib, 2, none⟩ = some (.pointer none)
theorem TM.cells {w w' : World} {ab ib : Nat} {aw ae iw ie : Int} (h : TM w ab ib aw ae iw ie) (ha : ∀ o, w'.cell? ⟨ab, o, none⟩ = w.cell? ⟨ab, o, none⟩) (hi : ∀ o, w'.cell? ⟨ib, o, none⟩ = w.cell? ⟨ib, o, none⟩) : TM w' ab ib aw ae iw ie :=
  ⟨(ha 0).trans h.a0, (ha 1).trans h.a1, (ha 2).trans h.a2, (hi 0).trans h.i0, (hi 1).trans h.i1, (hi 2).trans h.i2⟩
theorem TM.below {w w' : World} {ab ib B : Nat} {aw ae iw ie : Int} (h : TM w ab ib aw ae iw ie) (hb : Below B w w') (ha : ab < B) (hi : ib < B) : TM w' ab ib aw ae iw ie :=
  h.cells (fun _ => hb.cell ha) (fun _ => hb.cell hi)

theorem sameT_self (x y : Int) : sameT x y x y = true := by simp [sameT]
theorem sameT_next (aw ae : Int) : sameT aw ae ((aw + 1) % 1000000000) (ae + (aw + 1) / 1000000000) = false := by
  unfold sameT
  refine decide_eq_false (fun x => ?_)
  omega

/-- A map that another block's change leaves alone. -/
theorem MapIs.ofBlock {w w' : World} {b n : Nat} {f : List UInt8 → Option Int} (h : MapIs w b n f) (hb : w'.heap[b]? = w.heap[b]?) : MapIs w' b n f := by
  obtain ⟨D, ⟨es, cl, hh, rest⟩, hs⟩ := h
  exact ⟨D, ⟨es, cl, by rw [hb]; exact hh, rest⟩, hs⟩

/-- What a row of the call's own gives: its block. -/
theorem own_block {w : World} {base g n cap : Nat} {xs : List Value} (h : w.ownsRow base 9 1 (.slice (some ⟨g, 0, none⟩) n cap) n xs) :
    ∃ cur : Array Value, w.heap[g]? = some (.cells cur 9 (0, 0)) ∧ n ≤ cur.size ∧ n ≤ cap := by
  have hx := h.1
  rcases h.2 with ⟨h, _⟩ | ⟨g', cap', cur, h, hc, hg, h3, h4, h5, h6⟩
  · cases h
  · simp only [Value.slice.injEq, Option.some.injEq, Addr.mk.injEq] at h
    obtain ⟨⟨rfl, _, _⟩, _, rfl⟩ := h
    exact ⟨cur, hg, by omega, by omega⟩
end Go.Proofs.Ybulkblnk
