/-
  The law's keys; what its first loop lays into the map.
-/
import Derived.Test.YbulkblnkUncount
namespace Go.Proofs.Ybulkblnk
open Go.RowKit Go.Maps

/-- The key at place i. -/
def keyS (i : Nat) : ByteArray := match i with
  | 0 => ⟨#[97]⟩
  | 1 => ⟨#[98]⟩
  | 2 => ⟨#[99]⟩
  | 3 => ⟨#[100]⟩
  | _ => ⟨#[101]⟩
/-- Its bytes. -/
def ks (i : Nat) : List UInt8 := (keyS i).data.toList

set_option maxHeartbeats 400000 in
theorem key_any (n : Int) (w : World) (h0 : 0 ≤ n) (h1 : n ≤ 4) : Calls Yba.prog 5 #[.int .i64 n] w fun e w' => e = .returned (.string (keyS n.toNat)) ∧ w' = w := by
  rcases (show n = 0 ∨ n = 1 ∨ n = 2 ∨ n = 3 ∨ n = 4 from by omega) with rfl | rfl | rfl | rfl | rfl
  all_goals
    go_enter Yba.func5, Yba.ntmps5
    go_wp2
    go_ret
    exact ⟨rfl, rfl⟩

/-- The bit of place k. -/
def tb (p : Int) (k : Nat) : Bool := match k with
  | 0 => bits BinOp.and IntKind.u8 p 1 != 0
  | 1 => bits BinOp.and IntKind.u8 p 2 != 0
  | 2 => bits BinOp.and IntKind.u8 p 4 != 0
  | _ => bits BinOp.and IntKind.u8 p 8 != 0
/-- The count of place k. -/
def cn (c0 c1 c2 c3 : Int) (k : Nat) : Int := match k with
  | 0 => c0
  | 1 => c1
  | 2 => c2
  | _ => c3
/-- What the map holds behind k rounds. -/
def FT (p : Int) (c : Nat → Int) : Nat → (List UInt8 → Option Int)
  | 0 => fun _ => none
  | k + 1 => if tb p k then upd (FT p c k) (ks k) (some (c k)) else FT p c k
theorem FT_yes {p : Int} {c : Nat → Int} {k : Nat} (h : tb p k = true) (s : List UInt8) : upd (FT p c k) (ks k) (some (c k)) s = FT p c (k + 1) s := by simp [FT, h]
theorem FT_no {p : Int} {c : Nat → Int} {k : Nat} (h : tb p k = false) (s : List UInt8) : FT p c k s = FT p c (k + 1) s := by simp [FT, h]
/-- What stands at the key of place i behind all four rounds. -/
def at4 (p : Int) (c : Nat → Int) (i : Nat) : Option Int := if tb p i then some (c i) else none
theorem FT_at (p : Int) (c : Nat → Int) (i : Nat) (hi : i < 4) : FT p c 4 (ks i) = at4 p c i := by
  rcases (show i = 0 ∨ i = 1 ∨ i = 2 ∨ i = 3 from by omega) with rfl | rfl | rfl | rfl <;>
    (simp only [FT, at4]
     cases tb p 0 <;> cases tb p 1 <;> cases tb p 2 <;> cases tb p 3 <;> simp [upd, ks, keyS])
theorem FT_out (p : Int) (c : Nat → Int) (s : List UInt8) (h : ∀ i, i < 4 → s ≠ ks i) : FT p c 4 s = none := by
  simp only [FT]
  have h0 := h 0 (by decide)
  have h1 := h 1 (by decide)
  have h2 := h 2 (by decide)
  have h3 := h 3 (by decide)
  cases tb p 0 <;> cases tb p 1 <;> cases tb p 2 <;> cases tb p 3 <;> simp [upd, h0, h1, h2, h3]
/-- The instant that uncount is given. -/
def aOf (same : Bool) (i a : Int) : Int := if same then i else a
/-- The tags that the law makes. -/
def tagsOf (idx : List Int) : List ByteArray := idx.map fun x => keyS (x % 5).toNat
theorem tagsOf_nil {idx : List Int} (h : idx.length = 0) : tagsOf idx = [] := by rw [List.eq_nil_of_length_eq_zero h]; rfl
theorem tagsOf_length (idx : List Int) : (tagsOf idx).length = idx.length := List.length_map ..
theorem tagsOf_at (idx : List Int) (k : Nat) (h : k < (tagsOf idx).length) : (tagsOf idx)[k] = keyS (idx[k]'(by rw [← tagsOf_length]; exact h) % 5).toNat := by simp [tagsOf]
theorem keyS_size (i : Nat) : (keyS i).size ≤ maxLen := by
  unfold keyS
  split <;> decide
theorem tagsOf_size (idx : List Int) : ∀ s ∈ tagsOf idx, s.size ≤ maxLen := by
  intro s hs
  obtain ⟨x, _, rfl⟩ := List.mem_map.1 hs
  exact keyS_size _
theorem Row.grown {w w' : World} {a0 : Option Addr} {l : List ByteArray} {mb n : Nat} {f : List UInt8 → Option Int} (h : Row w a0 l) (M : MapIs w mb n f) (hg : w.grownBy w' (some mb)) : Row w' a0 l := by
  rcases h with h | ⟨b, off, e, hc⟩
  · exact Or.inl h
  · exact Or.inr ⟨b, off, e, fun i hi => hg.cell (hc i hi) (fun e => M.ne (hc i hi) (Option.some.inj e))⟩
/-- What stands in the map, behind uncount, at the key of place i. -/
def resOf (p : Int) (c : Nat → Int) (act : Bool) (tags : List ByteArray) (i : Nat) : Option Int := if act && hasB tags (keyS i) then dec1 (at4 p c i) else at4 p c i
/-- How many of the first k places answer. -/
def cntTo (p : Int) (c : Nat → Int) (act : Bool) (tags : List ByteArray) : Nat → Nat
  | 0 => 0
  | k + 1 => cntTo p c act tags k + if (resOf p c act tags k).isSome then 1 else 0
theorem cntTo_succ (p : Int) (c : Nat → Int) (act : Bool) (tags : List ByteArray) (k : Nat) : cntTo p c act tags (k + 1) = cntTo p c act tags k + if (resOf p c act tags k).isSome then 1 else 0 := rfl
theorem cntTo_le (p : Int) (c : Nat → Int) (act : Bool) (tags : List ByteArray) : ∀ k, cntTo p c act tags k ≤ k
  | 0 => Nat.le_refl _
  | k + 1 => by
    have := cntTo_le p c act tags k
    simp only [cntTo]
    split <;> omega
/-- The map behind uncount, as a function. -/
def fin (p : Int) (c : Nat → Int) (act : Bool) (tags : List ByteArray) (s : List UInt8) : Option Int := if act then remTo (FT p c 4) tags tags.length s else FT p c 4 s
theorem fin_at (p : Int) (c : Nat → Int) (act : Bool) (tags : List ByteArray) (i : Nat) (hi : i < 4) : fin p c act tags (ks i) = resOf p c act tags i := by
  unfold fin resOf
  cases act with
  | false => simp [FT_at p c i hi]
  | true =>
    have e : hasB tags (keyS i) = hasL tags (ks i) := hasL_eq tags (keyS i)
    simp only [if_true, remTo, List.take_length, e, FT_at p c i hi, Bool.true_and]
theorem dec1_none : dec1 none = none := rfl
theorem fin_out (p : Int) (c : Nat → Int) (act : Bool) (tags : List ByteArray) (s : List UInt8) (h : (fin p c act tags s).isSome = true) : s ∈ [ks 0, ks 1, ks 2, ks 3] := by
  by_cases e : ∀ i, i < 4 → s ≠ ks i
  · have h0 := FT_out p c s e
    unfold fin remTo at h
    rw [h0, dec1_none] at h
    simp at h
  · simp only [Classical.not_forall, Decidable.not_not] at e
    obtain ⟨i, hi, rfl⟩ := e
    rcases (show i = 0 ∨ i = 1 ∨ i = 2 ∨ i = 3 from by omega) with rfl | rfl | rfl | rfl <;> simp
theorem fin_count (p : Int) (c : Nat → Int) (act : Bool) (tags : List ByteArray) : ([ks 0, ks 1, ks 2, ks 3].filter fun s => (fin p c act tags s).isSome).length = cntTo p c act tags 4 := by
  simp only [List.filter_cons, List.filter_nil, fin_at p c act tags 0 (by decide), fin_at p c act tags 1 (by decide), fin_at p c act tags 2 (by decide), fin_at p c act tags 3 (by decide), cntTo]
  cases (resOf p c act tags 0).isSome <;> cases (resOf p c act tags 1).isSome <;> cases (resOf p c act tags 2).isSome <;> cases (resOf p c act tags 3).isSome <;> rfl
theorem fin_size {D : DataW Unit} (p : Int) (c : Nat → Int) (act : Bool) (tags : List ByteArray) (h : Sees D (fin p c act tags)) (hc : Canon D) : Maps.size D = cntTo p c act tags 4 := by
  rw [h.size hc [ks 0, ks 1, ks 2, ks 3] (by decide) (fin_out p c act tags), fin_count]
theorem res_no {p : Int} {c : Nat → Int} {act : Bool} {tags : List ByteArray} {i : Nat} (h : (act && hasB tags (keyS i)) = false) : resOf p c act tags i = at4 p c i := by unfold resOf; rw [h]; rfl
theorem res_hit {p : Int} {c : Nat → Int} {act : Bool} {tags : List ByteArray} {i : Nat} (h : (act && hasB tags (keyS i)) = true) : resOf p c act tags i = dec1 (at4 p c i) := by unfold resOf; rw [h]; rfl
theorem at4_yes {p : Int} {c : Nat → Int} {i : Nat} (h : tb p i = true) : at4 p c i = some (c i) := by unfold at4; rw [h]; rfl
theorem at4_no {p : Int} {c : Nat → Int} {i : Nat} (h : tb p i = false) : at4 p c i = none := by unfold at4; rw [h]; rfl
/-- Two instants are one just if the durations are. -/
theorem same_time (a b : Int) : sameT (a % 1000000000) (a / 1000000000) (b % 1000000000) (b / 1000000000) = (a == b) := by
  unfold sameT
  by_cases h : a = b
  · subst h; simp
  · rw [beq_eq_false_iff_ne.2 h]
    exact decide_eq_false (by omega)
theorem same_self (x y : Int) : sameT x y x y = true := by simp [sameT]
end Go.Proofs.Ybulkblnk
