/-
  PLAIN: lists of byte strings. No Go in sight.
-/
namespace Go.Proofs.Ybulkblnk

/-- Does s stand in l? -/
def hasB (l : List ByteArray) (s : ByteArray) : Bool := l.any fun x => x.toList == s.toList
theorem hasB_nil (s : ByteArray) : hasB [] s = false := rfl
theorem hasB_snoc (l : List ByteArray) (x s : ByteArray) : hasB (l ++ [x]) s = (hasB l s || x.toList == s.toList) := by
  simp [hasB, List.any_append]
theorem take_snoc {α : Type} (l : List α) (k : Nat) (h : k < l.length) : l.take (k + 1) = l.take k ++ [l[k]] :=
  List.take_succ_eq_append_getElem h
theorem hasB_step (l : List ByteArray) (s : ByteArray) (k : Nat) (h : k < l.length) : hasB (l.take (k + 1)) s = (hasB (l.take k) s || l[k].toList == s.toList) := by
  rw [take_snoc l k h, hasB_snoc]
theorem hasB_hit (l : List ByteArray) (s : ByteArray) (k : Nat) (h : k < l.length) (e : (l[k].toList == s.toList) = true) : hasB l s = true := by
  unfold hasB
  rw [List.any_eq_true]
  exact ⟨l[k], List.getElem_mem h, e⟩

end Go.Proofs.Ybulkblnk
