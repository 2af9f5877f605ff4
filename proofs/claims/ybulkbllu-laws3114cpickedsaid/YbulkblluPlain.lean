/-
  PLAIN: lists of byte strings; what 'fit' and the law's model compute. No Go in sight.
-/
namespace Go.Proofs.Ybulkbllu

/-- Does s stand in l? -/
def hasB (l : List ByteArray) (s : ByteArray) : Bool := l.any fun x => x.toList == s.toList
theorem hasB_nil (s : ByteArray) : hasB [] s = false := rfl
theorem hasB_snoc (l : List ByteArray) (x s : ByteArray) : hasB (l ++ [x]) s = (hasB l s || x.toList == s.toList) := by
  simp [hasB, List.any_append]
theorem take_snoc {α : Type} (l : List α) (k : Nat) (h : k < l.length) : l.take (k + 1) = l.take k ++ [l[k]] :=
  List.take_succ_eq_append_getElem h
theorem hasB_step (l : List ByteArray) (s : ByteArray) (k : Nat) (h : k < l.length) : hasB (l.take (k + 1)) s = (hasB (l.take k) s || l[k].toList == s.toList) := by
  rw [take_snoc l k h, hasB_snoc]
theorem hasB_hit (l : List ByteArray) (s : ByteArray) (k : Nat) (h : k < l.length) (e : (l[k].toList == s.toList) = true) : hasB l s = true := by
  unfold hasB
  rw [List.any_eq_true]
  exact ⟨l[k], List.getElem_mem h, e⟩

/-- The name at place k may stand there: it is no name of the places before it, and it is known. -/
def okAt (req opt h : List ByteArray) (k : Nat) : Bool :=
  match h[k]? with
  | some x => !hasB (h.take k) x && (hasB req x || hasB opt x)
  | none => false
/-- The first k places are in order. -/
def okTo (req opt h : List ByteArray) : Nat → Bool
  | 0 => true
  | k + 1 => okTo req opt h k && okAt req opt h k
/-- The first k required names stand in h. -/
def reqTo (req h : List ByteArray) : Nat → Bool
  | 0 => true
  | k + 1 => reqTo req h k && (match req[k]? with | some x => hasB h x | none => false)
/-- WHAT BOTH COMPUTE. -/
def fits (req opt h : List ByteArray) : Bool := okTo req opt h h.length && reqTo req h req.length

theorem okTo_false {req opt h : List ByteArray} {k : Nat} : ∀ {n : Nat}, k < n → okAt req opt h k = false → okTo req opt h n = false
  | 0, hk, _ => absurd hk (Nat.not_lt_zero _)
  | n + 1, hk, e => by
    simp only [okTo]
    by_cases h1 : k = n
    · subst h1; simp [e]
    · rw [okTo_false (by omega) e]; rfl
theorem reqTo_false {req h : List ByteArray} {k : Nat} (hk0 : k < req.length) (e : hasB h req[k] = false) : ∀ {n : Nat}, k < n → reqTo req h n = false
  | 0, hk => absurd hk (Nat.not_lt_zero _)
  | n + 1, hk => by
    simp only [reqTo]
    by_cases h1 : k = n
    · subst h1; simp [List.getElem?_eq_getElem hk0, e]
    · rw [reqTo_false hk0 e (by omega)]; rfl
theorem fits_no_ok {req opt h : List ByteArray} {k : Nat} (hk : k < h.length) (e : okAt req opt h k = false) : fits req opt h = false := by
  simp [fits, okTo_false hk e]
theorem fits_no_req {req opt h : List ByteArray} {k : Nat} (hk : k < req.length) (e : hasB h req[k] = false) : fits req opt h = false := by
  simp [fits, reqTo_false hk e hk]
theorem fits_yes {req opt h : List ByteArray} (e1 : okTo req opt h h.length = true) (e2 : reqTo req h req.length = true) : fits req opt h = true := by
  simp [fits, e1, e2]
theorem okAt_dup {req opt h : List ByteArray} {k : Nat} (hk : k < h.length) (e : hasB (h.take k) h[k] = true) : okAt req opt h k = false := by
  simp [okAt, List.getElem?_eq_getElem hk, e]
theorem okAt_unknown {req opt h : List ByteArray} {k : Nat} (hk : k < h.length) (e1 : hasB req h[k] = false) (e2 : hasB opt h[k] = false) : okAt req opt h k = false := by
  simp [okAt, List.getElem?_eq_getElem hk, e1, e2]
theorem okAt_req {req opt h : List ByteArray} {k : Nat} (hk : k < h.length) (e : hasB (h.take k) h[k] = false) (e1 : hasB req h[k] = true) : okAt req opt h k = true := by
  simp [okAt, List.getElem?_eq_getElem hk, e, e1]
theorem okAt_opt {req opt h : List ByteArray} {k : Nat} (hk : k < h.length) (e : hasB (h.take k) h[k] = false) (e2 : hasB opt h[k] = true) : okAt req opt h k = true := by
  simp [okAt, List.getElem?_eq_getElem hk, e, e2]
theorem okTo_succ {req opt h : List ByteArray} {k : Nat} (e : okTo req opt h k = true) (e1 : okAt req opt h k = true) : okTo req opt h (k + 1) = true := by
  simp [okTo, e, e1]
theorem reqTo_succ {req h : List ByteArray} {k : Nat} (hk : k < req.length) (e : reqTo req h k = true) (e1 : hasB h req[k] = true) : reqTo req h (k + 1) = true := by
  simp [reqTo, e, List.getElem?_eq_getElem hk, e1]
end Go.Proofs.Ybulkbllu
