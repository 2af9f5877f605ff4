/-
  A MAP FROM STRINGS TO INTS THAT THE CALL MADE, SEEN AS A PARTIAL FUNCTION ON THE KEYS' BYTES.
-/
import Derived.Test.YbulkblnkRows
import Derived.Maps.Ext
import Derived.Maps.OwnSet
import Derived.Maps.OwnOps
import Derived.WalkKit
namespace Go.Proofs.Ybulkblnk
open Go.RowKit Go.Maps

theorem law : Keyed Yba.prog 9 := string_keyed Yba.underlying9
theorem zeroE (w : World) : (zeroValue 3).run Yba.prog w = .ok (.int .i64 0) w := by kernel_rfl

/-- What stands in a place of the function, as data. -/
def val (o : Option Int) (z : DataW Unit) : DataW Unit := match o with
  | some c => .lit (.int .i64 c)
  | none => z
/-- The map D reads, key by key, as f. -/
def Sees (D : DataW Unit) (f : List UInt8 → Option Int) : Prop :=
  (∀ s z, D.atKey (.string s) z = val (f s) z) ∧ ∀ k : Lit, (∀ s, k ≠ .string s) → Maps.has D k = false
/-- The function f, at s turned to v. -/
def upd (f : List UInt8 → Option Int) (s : List UInt8) (v : Option Int) : List UInt8 → Option Int := fun t => if t = s then v else f t

theorem upd_same (f : List UInt8 → Option Int) (s : List UInt8) (v : Option Int) : upd f s v s = v := by simp [upd]
theorem upd_other (f : List UInt8 → Option Int) {s t : List UInt8} (v : Option Int) (h : t ≠ s) : upd f s v t = f t := by simp [upd, h]

theorem lit_ne {s t : List UInt8} (h : t ≠ s) : (Lit.string t) ≠ Lit.string s := fun e => h (by injection e)

theorem sees_empty : Sees (.map []) (fun _ => none) := ⟨fun _ _ => rfl, fun _ _ => rfl⟩
theorem Sees.has {D : DataW Unit} {f : List UInt8 → Option Int} (h : Sees D f) (s : List UInt8) : Maps.has D (.string s) = (f s).isSome := by
  cases e : f s with
  | none => exact has_false_of_atKey (fun z => by rw [h.1 s z, e]; rfl)
  | some c => exact has_true_of_atKey (y := .lit (.int .i64 c)) (fun z => by rw [h.1 s z, e]; rfl)
theorem Sees.put {D : DataW Unit} {f : List UInt8 → Option Int} (h : Sees D f) (hD : IsMap D) (s : List UInt8) (c : Int) : Sees (D.put (.string s) (.lit (.int .i64 c))) (upd f s (some c)) := by
  refine ⟨fun t z => ?_, fun k hk => ?_⟩
  · by_cases e : t = s
    · subst e
      rw [upd_same, atKey_put_same (k := .string t) hD (by trivial)]; rfl
    · rw [upd_other f _ e, atKey_put_other (lit_ne e), h.1 t z]
  · rw [has_put_other (hk s), h.2 k hk]
theorem Sees.del {D : DataW Unit} {f : List UInt8 → Option Int} (h : Sees D f) (s : List UInt8) : Sees (D.del (.string s)) (upd f s none) := by
  refine ⟨fun t z => ?_, fun k hk => ?_⟩
  · by_cases e : t = s
    · subst e
      rw [upd_same, atKey_del_same]; rfl
    · rw [upd_other f _ e, atKey_del_other (lit_ne e), h.1 t z]
  · rw [has_del_other (hk s), h.2 k hk]
theorem Sees.congr {D : DataW Unit} {f g : List UInt8 → Option Int} (h : Sees D f) (e : ∀ s, f s = g s) : Sees D g := by
  have : f = g := funext e
  exact this ▸ h
/-- Two maps that are seen as one function are one. -/
theorem Sees.same {D D' : DataW Unit} {f : List UInt8 → Option Int} (h : Sees D f) (h' : Sees D' f) (c : Canon D) (c' : Canon D') : D = D' := by
  refine Maps.ext c c' (fun k => ?_) (fun k z hk => ?_)
  · by_cases e : ∃ s, k = .string s
    · obtain ⟨s, rfl⟩ := e
      rw [h.has, h'.has]
    · rw [h.2 k (fun s hs => e ⟨s, hs⟩), h'.2 k (fun s hs => e ⟨s, hs⟩)]
  · by_cases e : ∃ s, k = .string s
    · obtain ⟨s, rfl⟩ := e
      rw [h.1, h'.1]
    · rw [h.2 k (fun s hs => e ⟨s, hs⟩)] at hk; cases hk
theorem apart_of_apart {α : Type} {R S : α → α → Prop} : ∀ l : List α, (∀ a b, R a b → S a b) → l.Pairwise R → l.Pairwise S
  | [], _, _ => List.Pairwise.nil
  | a :: l, h, p => by
    rw [List.pairwise_cons] at p ⊢
    exact ⟨fun b hb => h a b (p.1 b hb), apart_of_apart l h p.2⟩
/-- How many entries: as many as places of L at which f answers. -/
theorem Sees.size {D : DataW Unit} {f : List UInt8 → Option Int} (h : Sees D f) (c : Canon D) (L : List (List UInt8)) (hn : L.Nodup) (hs : ∀ s, (f s).isSome = true → s ∈ L) :
    Maps.size D = (L.filter fun s => (f s).isSome).length := by
  have hh := h.has
  have h2 := h.2
  obtain ⟨es, rfl, hp, hk⟩ := c
  have e1 : Maps.size (.map es : DataW Unit) = (es.map (·.1)).length := by rw [size_eq, List.length_map]
  have e2 : (L.filter fun s => (f s).isSome).length = ((L.filter fun s => (f s).isSome).map Lit.string).length := by rw [List.length_map]
  rw [e1, e2]
  refine List.Perm.length_eq ((List.perm_ext_iff_of_nodup ?_ ?_).2 fun k => ?_)
  · have := apart_of_rising hp
    exact List.pairwise_map.2 this
  · refine List.pairwise_map.2 (apart_of_apart _ (fun a b hab e => hab ?_) (hn.filter _))
    injection e
  · constructor
    · intro hm
      obtain ⟨p, hpm, rfl⟩ := List.mem_map.1 hm
      have hs1 : Maps.has (.map es : DataW Unit) p.1 = true := List.any_eq_true.2 ⟨p, hpm, WideAt.sameKey_self (hk p hpm)⟩
      by_cases e : ∃ s, p.1 = .string s
      · obtain ⟨s, e⟩ := e
        rw [e, hh] at hs1
        rw [e]
        exact List.mem_map.2 ⟨s, List.mem_filter.2 ⟨hs s hs1, hs1⟩, rfl⟩
      · rw [h2 p.1 (fun s hs => e ⟨s, hs⟩)] at hs1; cases hs1
    · intro hm
      obtain ⟨s, hsm, rfl⟩ := List.mem_map.1 hm
      have hf := (List.mem_filter.1 hsm).2
      rw [← hh s] at hf
      obtain ⟨p, hpm, hpk⟩ := List.any_eq_true.1 hf
      exact List.mem_map.2 ⟨p, hpm, WideAt.sameKey_eq hpk⟩

/-- BLOCK b OF w IS A MAP OF AT MOST n ENTRIES THAT IS SEEN AS f. -/
def MapIs (w : World) (b n : Nat) (f : List UInt8 → Option Int) : Prop := ∃ D : DataW Unit, w.ownsMap Yba.prog 9 (plainElem Yba.prog 3) b n D ∧ Sees D f
theorem MapIs.kept {w w' : World} {b n : Nat} {f : List UInt8 → Option Int} {row : Option Nat} (h : MapIs w b n f) (hg : w.grownBy w' row) (hne : some b ≠ row) : MapIs w' b n f := by
  obtain ⟨D, ho, hs⟩ := h
  exact ⟨D, ho.kept hg hne, hs⟩
theorem MapIs.alloc {w : World} {b n : Nat} {f : List UInt8 → Option Int} (h : MapIs w b n f) (o : Obj) : MapIs (w.alloc o) b n f := by
  obtain ⟨D, ho, hs⟩ := h
  exact ⟨D, ho.alloc o, hs⟩
theorem MapIs.lt {w : World} {b n : Nat} {f : List UInt8 → Option Int} (h : MapIs w b n f) : b < w.heap.size := by
  obtain ⟨D, ho, _⟩ := h
  exact ho.lt
theorem MapIs.below {w w' : World} {b n B : Nat} {f : List UInt8 → Option Int} (h : MapIs w b n f) (hb : Below B w w') (hB : b < B) : MapIs w' b n f := by
  obtain ⟨D, ⟨es, cl, hh, rest⟩, hs⟩ := h
  exact ⟨D, ⟨es, cl, by rw [hb.block b hB]; exact hh, rest⟩, hs⟩
theorem MapIs.mono {w : World} {b n m : Nat} {f : List UInt8 → Option Int} (h : MapIs w b n f) (hm : n ≤ m) : MapIs w b m f := by
  obtain ⟨D, ho, hs⟩ := h
  exact ⟨D, ho.mono hm, hs⟩
theorem MapIs.congr {w : World} {b n : Nat} {f g : List UInt8 → Option Int} (h : MapIs w b n f) (e : ∀ s, f s = g s) : MapIs w b n g := by
  obtain ⟨D, ho, hs⟩ := h
  exact ⟨D, ho, hs.congr e⟩
theorem MapIs.ne {w : World} {b n : Nat} {f : List UInt8 → Option Int} (h : MapIs w b n f) {a : Addr} {v : Value} (hc : w.cell? a = some v) : a.block ≠ b := by
  obtain ⟨D, ⟨es, cl, hh, _⟩, _⟩ := h
  intro e
  subst e
  simp [World.cell?, hh] at hc
theorem keyIs {s : ByteArray} (h : s.size ≤ maxLen) : keyOf Yba.prog 9 (.string s) = some (.string s.data.toList) := WideMaps.keyOf_string_mk Yba.underlying9 h
end Go.Proofs.Ybulkblnk
