/-
  THE CONTRACTS of zzs3117bhas, slices.Index and slices.Contains (at strings): for every slice of strings, nil and empty ones too.
-/
import Derived.Test.YbulkblnkRows
import Derived.Test.YbulkblnkHas
import Derived.WalkKit
import Derived.WalkSpells
import Derived.WalkLawsBesides
import Derived.Deep.Draws
namespace Go.Proofs.Ybulkblnk
open Go.RowKit

/-- The cells of a slice of strings: nothing where it is empty. -/
def Row (w : World) (a0 : Option Addr) (l : List ByteArray) : Prop :=
  l = [] ∨ ∃ b off : Nat, a0 = some ⟨b, off, none⟩ ∧ ∀ (i : Nat) (h : i < l.length), w.cell? ⟨b, off + i, none⟩ = some (.string l[i])

set_option maxHeartbeats 400000 in
theorem in_any (a0 : Option Addr) (l : List ByteArray) (cap : Nat) (s : ByteArray) (w : World) (hl : l.length ≤ 1000000) (hr : Row w a0 l) :
    Calls Yba.prog 8 #[.slice a0 l.length cap, .string s] w fun e w' => e = .returned (.bool (hasB l s)) ∧ w' = w := by
  rcases hr with rfl | ⟨b, off, rfl, hc⟩
  · go_enter Yba.func8, Yba.ntmps8
    go_wp2
    go_loop [5] (fun i => i = .int .i64 0) (fun _ => 0)
    case atStart => rfl
    case round =>
      subst hrel
      go_wp2
      go_ret
      exact ⟨rfl, rfl⟩
  · go_enter Yba.func8, Yba.ntmps8
    go_wp2
    go_loop [5] (fun i => ∃ k : Nat, k ≤ l.length ∧ i = .int .i64 k ∧ hasB (l.take k) s = false) (fun i => l.length - (intOf i).toNat)
    case atStart => exact ⟨0, Nat.zero_le _, rfl, rfl⟩
    case round =>
      obtain ⟨k, hk, rfl, hn⟩ := hrel
      by_cases hlt : k < l.length
      · have hck := hc k hlt
        have hst := hasB_step l s k hlt
        have hhit := hasB_hit l s k hlt
        clear hc
        generalize l[k] = x at *
        by_cases he : (x.toList == s.toList) = true
        · have HR : Hid (hasB l s = true) := hhit he
          clear hst hhit hn
          go_wp2
          go_ret
          exact ⟨by rw [HR.out]; rfl, rfl⟩
        · have he : (x.toList == s.toList) = false := by simpa using he
          have HR : Hid (hasB (l.take (k + 1)) s = false) := by rw [hst, hn, he]; rfl
          clear hst hhit hn
          go_wp2
          go_round
          case rel => exact ⟨k + 1, by omega, by go_num, HR.out⟩
          case measure => simp [intOf]; omega
      · have HR : Hid (hasB l s = false) := by
          rw [List.take_of_length_le (by omega)] at hn; exact hn
        clear hc hn
        go_wp2
        go_ret
        exact ⟨by rw [HR.out]; rfl, rfl⟩

set_option maxHeartbeats 400000 in
theorem index_any (a0 : Option Addr) (l : List ByteArray) (cap : Nat) (s : ByteArray) (w : World) (hl : l.length ≤ 1000000) (hr : Row w a0 l) :
    Calls Yba.prog 23 #[.slice a0 l.length cap, .string s] w fun e w' => ∃ n : Int, e = .returned (.int .i64 n) ∧ decide (0 ≤ n) = hasB l s ∧ w' = w := by
  rcases hr with rfl | ⟨b, off, rfl, hc⟩
  · go_enter Yba.func23, Yba.ntmps23
    go_wp2
    go_loop [8] (fun i => i = .int .i64 0) (fun _ => 0)
    case atStart => rfl
    case round =>
      subst hrel
      go_wp2
      go_ret
      exact ⟨-1, rfl, rfl, rfl⟩
  · go_enter Yba.func23, Yba.ntmps23
    go_wp2
    go_loop [8] (fun i => ∃ k : Nat, k ≤ l.length ∧ i = .int .i64 k ∧ hasB (l.take k) s = false) (fun i => l.length - (intOf i).toNat)
    case atStart => exact ⟨0, Nat.zero_le _, rfl, rfl⟩
    case round =>
      obtain ⟨k, hk, rfl, hn⟩ := hrel
      by_cases hlt : k < l.length
      · have hck := hc k hlt
        have hst := hasB_step l s k hlt
        have hhit := hasB_hit l s k hlt
        clear hc
        generalize l[k] = x at *
        by_cases he : (s.toList == x.toList) = true
        · have HR : Hid (hasB l s = true) := hhit (by rw [beq_iff_eq] at he ⊢; exact he.symm)
          clear hst hhit hn
          go_wp2
          go_ret
          exact ⟨(k : Int), rfl, by rw [HR.out]; simp, rfl⟩
        · have he : (s.toList == x.toList) = false := by simpa using he
          have HR : Hid (hasB (l.take (k + 1)) s = false) := by
            have e2 : (x.toList == s.toList) = false := by rw [beq_eq_false_iff_ne] at he ⊢; exact fun h => he h.symm
            rw [hst, hn, e2]; rfl
          clear hst hhit hn
          go_wp2
          go_round
          case rel => exact ⟨k + 1, by omega, by go_num, HR.out⟩
          case measure => simp [intOf]; omega
      · have HR : Hid (hasB l s = false) := by
          rw [List.take_of_length_le (by omega)] at hn; exact hn
        clear hc hn
        go_wp2
        go_ret
        exact ⟨-1, rfl, by rw [HR.out]; rfl, rfl⟩

set_option maxHeartbeats 400000 in
theorem contains_any (a0 : Option Addr) (l : List ByteArray) (cap : Nat) (s : ByteArray) (w : World) (hl : l.length ≤ 1000000) (hr : Row w a0 l) :
    Calls Yba.prog 19 #[.slice a0 l.length cap, .string s] w fun e w' => e = .returned (.bool (hasB l s)) ∧ w' = w := by
  go_enter Yba.func19, Yba.ntmps19
  go_wp2_with (go_at_call 23; refine (index_any a0 l cap s _ hl hr).mono ?_; rintro e w' ⟨n, rfl, hn, rfl⟩)
  go_ret
  exact ⟨by rw [← hn]; rfl, rfl⟩
theorem Row.below {w w' : World} {a0 : Option Addr} {l : List ByteArray} (h : Row w a0 l) (hb : Below w.heap.size w w') : Row w' a0 l := by
  rcases h with h | ⟨b, off, e, hc⟩
  · exact Or.inl h
  · refine Or.inr ⟨b, off, e, fun i hi => ?_⟩
    rw [hb.cell (p := ⟨b, off + i, none⟩) (World.block_lt_of_cell? _ _ (hc i hi))]
    exact hc i hi
theorem Row.take {w : World} {a0 : Option Addr} {l : List ByteArray} (h : Row w a0 l) (k : Nat) : Row w a0 (l.take k) := by
  rcases h with rfl | ⟨b, off, e, hc⟩
  · exact Or.inl (by simp)
  · refine Or.inr ⟨b, off, e, fun i hi => ?_⟩
    rw [List.length_take] at hi
    rw [hc i (by omega), List.getElem_take]
theorem contains_at (a0 : Option Addr) (l : List ByteArray) (n cap : Nat) (s : ByteArray) (w : World) (hn : l.length = n) (hl : n ≤ 1000000) (hr : Row w a0 l) :
    Calls Yba.prog 19 #[.slice a0 n cap, .string s] w fun e w' => e = .returned (.bool (hasB l s)) ∧ w' = w := by
  subst hn
  exact contains_any a0 l cap s w hl hr
theorem in_at (a0 : Option Addr) (l : List ByteArray) (n cap : Nat) (s : ByteArray) (w : World) (hn : l.length = n) (hl : n ≤ 1000000) (hr : Row w a0 l) :
    Calls Yba.prog 8 #[.slice a0 n cap, .string s] w fun e w' => e = .returned (.bool (hasB l s)) ∧ w' = w := by
  subst hn
  exact in_any a0 l cap s w hl hr

theorem Row.drewN {w : World} {a0 : Option Addr} {l : List ByteArray} (h : Row w a0 l) (n : Nat) : Row (w.drewN n) a0 l := by
  rcases h with h | ⟨b, off, e, hc⟩
  · exact Or.inl h
  · refine Or.inr ⟨b, off, e, fun i hi => ?_⟩
    have := hc i hi
    simpa using this

/-- The cells of a slice of bytes. -/
def RowU (w : World) (a0 : Option Addr) (l : List Int) : Prop :=
  l = [] ∨ ∃ b off : Nat, a0 = some ⟨b, off, none⟩ ∧ ∀ (i : Nat) (h : i < l.length), w.cell? ⟨b, off + i, none⟩ = some (.int .u8 l[i]) ∧ 0 ≤ l[i] ∧ l[i] ≤ 255
theorem RowU.below {w w' : World} {a0 : Option Addr} {l : List Int} (h : RowU w a0 l) (hb : Below w.heap.size w w') : RowU w' a0 l := by
  rcases h with h | ⟨b, off, e, hc⟩
  · exact Or.inl h
  · refine Or.inr ⟨b, off, e, fun i hi => ?_⟩
    rw [hb.cell (p := ⟨b, off + i, none⟩) (World.block_lt_of_cell? _ _ (hc i hi).1)]
    exact hc i hi
end Go.Proofs.Ybulkblnk
