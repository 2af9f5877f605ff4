/-
  THE LAW'S OWN COMPARISON.
-/
import Derived.Test.YbulkblpaCalls
import Derived.Deep.QuietTactic
import Derived.BigQuiet
namespace Go.Proofs.Ybulkblpa
open Go.RowKit

theorem Gr.drewN {a w : World} (h : Grown a w) : ∀ n, Grown a (w.drewN n)
  | 0 => h
  | n + 1 => (Gr.drewN (w := w.drew) h.drew n)

theorem drop_at (a : ByteArray) (k : Nat) (h : k < a.size) : a.data.toList.drop k = a[k] :: a.data.toList.drop (k + 1) := by
  rw [List.drop_eq_getElem_cons (by simpa using h)]
  rfl
theorem cmp_lt {a b : ByteArray} {k : Nat} (ha : k < a.size) (hb : k < b.size) (h : a[k].toNat < b[k].toNat) : Lib.compareBytes (a.data.toList.drop k) (b.data.toList.drop k) = -1 := by
  rw [drop_at a k ha, drop_at b k hb]
  unfold Lib.compareBytes
  rw [if_pos (UInt8.lt_iff_toNat_lt.2 h)]
theorem cmp_gt {a b : ByteArray} {k : Nat} (ha : k < a.size) (hb : k < b.size) (h : b[k].toNat < a[k].toNat) : Lib.compareBytes (a.data.toList.drop k) (b.data.toList.drop k) = 1 := by
  rw [drop_at a k ha, drop_at b k hb]
  unfold Lib.compareBytes
  rw [if_neg (by rw [UInt8.lt_iff_toNat_lt]; omega), if_pos (UInt8.lt_iff_toNat_lt.2 h)]
theorem cmp_on {a b : ByteArray} {k : Nat} (ha : k < a.size) (hb : k < b.size) (h1 : ¬ a[k].toNat < b[k].toNat) (h2 : ¬ b[k].toNat < a[k].toNat) : Lib.compareBytes (a.data.toList.drop k) (b.data.toList.drop k) = Lib.compareBytes (a.data.toList.drop (k + 1)) (b.data.toList.drop (k + 1)) := by
  rw [drop_at a k ha, drop_at b k hb]
  conv => lhs; unfold Lib.compareBytes
  rw [if_neg (by rw [UInt8.lt_iff_toNat_lt]; omega), if_neg (by rw [UInt8.lt_iff_toNat_lt]; omega)]
theorem drop_end {a : ByteArray} {k : Nat} (h : a.size ≤ k) : a.data.toList.drop k = [] := List.drop_eq_nil_of_le (by simpa using h)
theorem cmp_end {a b : ByteArray} {k : Nat} (ha : k ≤ a.size) (hb : k ≤ b.size) (h : ¬ (k < a.size ∧ k < b.size)) : Lib.compareBytes (a.data.toList.drop k) (b.data.toList.drop k) = if a.size < b.size then -1 else if b.size < a.size then 1 else 0 := by
  by_cases h1 : k < a.size
  · rw [drop_at a k h1, drop_end (a := b) (by omega), if_neg (by omega), if_pos (by omega)]; rfl
  · rw [drop_end (a := a) (by omega)]
    by_cases h2 : k < b.size
    · rw [drop_at b k h2, if_pos (by omega)]; rfl
    · rw [drop_end (a := b) (by omega), if_neg (by omega), if_neg (by omega)]; rfl

theorem bytes_any (a b : ByteArray) (ha : a.size ≤ 1024) (w : World) :
    Calls Yba.prog 12 #[.string a, .string b] w fun e w' => e = .returned (.int .i64 (Lib.compareBytes a.data.toList b.data.toList)) ∧ Grown w w' := by
  go_enter Yba.func12, Yba.ntmps12
  go_wp2
  go_loopw [5] (fun i wr => ∃ k : Nat, k ≤ a.size ∧ k ≤ b.size ∧ i = .int .i64 k ∧ Lib.compareBytes a.data.toList b.data.toList = Lib.compareBytes (a.data.toList.drop k) (b.data.toList.drop k) ∧ Grown w wr) (fun i _ => a.size - (intOf i).toNat)
  case atStart => exact ⟨0, Nat.zero_le _, Nat.zero_le _, rfl, rfl, Grown.refl _⟩
  case round =>
    obtain ⟨k, hka, hkb, rfl, hc, hG⟩ := hrel
    have HC : Hid (Lib.compareBytes a.data.toList b.data.toList = Lib.compareBytes (a.data.toList.drop k) (b.data.toList.drop k)) := hc
    clear hc
    by_cases h1 : k < a.size
    · by_cases h2 : k < b.size
      · have i1 : (k : Int) < (a.size : Int) := by omega
        have i2 : (k : Int) < (b.size : Int) := by omega
        by_cases hlt : a[k].toNat < b[k].toNat
        · go_wp2
          go_quiet (fail)
          go_wp2
          go_ret
          exact ⟨by rw [HC.out, cmp_lt h1 h2 hlt]; rfl, Gr.drewN hG _⟩
        · by_cases hgt : b[k].toNat < a[k].toNat
          · go_wp2
            go_quiet (fail)
            go_wp2
            have hG1 : Grown w (wr.drewN nq) := Gr.drewN hG _
            generalize wr.drewN nq = wr1 at *
            go_quiet (fail)
            go_wp2
            go_ret
            exact ⟨by rw [HC.out, cmp_gt h1 h2 hgt]; rfl, Gr.drewN hG1 _⟩
          · have HE : Hid (Lib.compareBytes (a.data.toList.drop k) (b.data.toList.drop k) = Lib.compareBytes (a.data.toList.drop (k + 1)) (b.data.toList.drop (k + 1))) := cmp_on h1 h2 hlt hgt
            go_wp2
            go_quiet (fail)
            go_wp2
            have hG1 : Grown w (wr.drewN nq) := Gr.drewN hG _
            generalize wr.drewN nq = wr1 at *
            go_quiet (fail)
            go_wp2
            go_roundw
            case rel => exact ⟨k + 1, by omega, by omega, by go_num, HC.out.trans HE.out, Gr.drewN hG1 _⟩
            case measure => simp [intOf]; omega
      · have HE : Hid (Lib.compareBytes (a.data.toList.drop k) (b.data.toList.drop k) = if a.size < b.size then -1 else if b.size < a.size then 1 else 0) := cmp_end hka hkb (by omega)
        go_wp2
        all_goals
          go_ret
          exact ⟨by rw [HC.out, HE.out]; simp; omega, hG⟩
    · have HE : Hid (Lib.compareBytes (a.data.toList.drop k) (b.data.toList.drop k) = if a.size < b.size then -1 else if b.size < a.size then 1 else 0) := cmp_end hka hkb (by omega)
      go_wp2
      all_goals
        go_ret
        exact ⟨by rw [HC.out, HE.out]; simp; omega, hG⟩

theorem cb_self : ∀ l : List UInt8, Lib.compareBytes l l = 0
  | [] => rfl
  | x :: l => by
    unfold Lib.compareBytes
    rw [if_neg (UInt8.lt_irrefl x), if_neg (UInt8.lt_irrefl x)]
    exact cb_self l
theorem cmpV_self (t : ByteArray) (m k : Int) : cmpV t m k t m k = 0 := by
  unfold cmpV
  rw [cb_self]
  have : cmpI m m = 0 := by simp [cmpI]
  rw [this]
  by_cases h : k = 0
  · subst h; rfl
  · by_cases h1 : k = 1
    · subst h1; rfl
    · simp [h, h1]
theorem Is.null {sel n : Int} {s t : ByteArray} {m k : Int} (h : Is sel n s t m k) : decide (k = 0) = decide (sel % 3 = 0) := by
  rcases h with ⟨h, _, _, rfl⟩ | ⟨h, _, _, rfl⟩ | ⟨h, _, _, rfl⟩ <;> simp [h]
end Go.Proofs.Ybulkblpa
