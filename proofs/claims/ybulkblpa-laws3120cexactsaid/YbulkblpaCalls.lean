/-
  THE CALLEES OF THE TWO LAWS, EACH BY A CONTRACT.
-/
import Derived.Test.YbulkblpaRows
import Derived.WalkKit
import Derived.ProofKit
import Derived.Handy
import Derived.Lib.Bytealg
namespace Go.Proofs.Ybulkblpa
open Go.RowKit

theorem Gr.trans {a b c : World} (h : Grown a b) (k : Grown b c) : Grown a c :=
  ⟨World.keptBut_trans h.1 k.1, fun x => (k.2.1 x).trans (h.2.1 x), Nat.le_trans h.2.2 k.2.2⟩

/-- A value of the model. -/
abbrev V (t : ByteArray) (n k : Int) : Value := .agg #[.string t, .int .i64 n, .int .u8 k]

theorem intValue_any (n : Int) (w : World) : Calls Yba.prog 8 #[.int .i64 n] w fun e w' => e = .returned (V ByteArray.empty n 1) ∧ Grown w w' := by
  go_enter Yba.func8, Yba.ntmps8
  go_wp2
  go_returns
  exact ⟨rfl, by go_grown⟩

theorem textValue_any (s : ByteArray) (w : World) : Calls Yba.prog 9 #[.string s] w fun e w' => e = .returned (V s 0 2) ∧ Grown w w' := by
  go_enter Yba.func9, Yba.ntmps9
  go_wp2
  go_returns
  exact ⟨rfl, by go_grown⟩

theorem isNull_any (t : ByteArray) (n k : Int) (w : World) : Calls Yba.prog 13 #[V t n k] w fun e w' => e = .returned (.bool (decide (k = 0))) ∧ w' = w.alloc (.cells #[.string t, .int .i64 n, .int .u8 k] 24) := by
  go_enter Yba.func13, Yba.ntmps13
  go_wp2
  go_ret
  exact ⟨rfl, rfl⟩

/-- How two numbers stand. -/
def cmpI (a b : Int) : Int := if a < b then -1 else if b < a then 1 else 0

theorem isNaN_any (a : Int) (w : World) : Calls Yba.prog 16 #[.int .i64 a] w fun e w' => e = .returned (.bool false) ∧ w' = w := by
  go_enter Yba.func16, Yba.ntmps16
  go_wp2
  go_ret
  exact ⟨rfl, rfl⟩

theorem cmpInt_any (a b : Int) (w : World) : Calls Yba.prog 14 #[.int .i64 a, .int .i64 b] w fun e w' => e = .returned (.int .i64 (cmpI a b)) ∧ w' = w := by
  unfold cmpI
  by_cases h1 : a < b
  · rw [if_pos h1]
    go_enter Yba.func14, Yba.ntmps14
    go_wp2
    go_ret
    exact ⟨rfl, rfl⟩
  · rw [if_neg h1]
    by_cases h2 : b < a
    · rw [if_pos h2]
      go_enter Yba.func14, Yba.ntmps14
      go_wp2
      go_ret
      exact ⟨rfl, rfl⟩
    · rw [if_neg h2]
      go_enter Yba.func14, Yba.ntmps14
      go_wp2
      go_ret
      exact ⟨rfl, rfl⟩

theorem cmpStr_any (a b : ByteArray) (w : World) : Calls Yba.prog 17 #[.string a, .string b] w fun e w' => e = .returned (.int .i64 (Lib.compareBytes a.data.toList b.data.toList)) ∧ w' = w := by
  go_enter Yba.func17, Yba.ntmps17
  go_wp2
  rw [run_callFunc_extern Yba.func18 (by kernel_rfl) (by kernel_rfl) (by kernel_rfl) (e := Extern.BytealgCompare.compare) (by kernel_rfl), Lib.run_compareString]
  simp only [Result.andThen]
  rw [Oper.upon_value]
  go_wp2
  go_ret
  exact ⟨rfl, rfl⟩

theorem strCmp_any (a b : ByteArray) (w : World) : Calls Yba.prog 15 #[.string a, .string b] w fun e w' => e = .returned (.int .i64 (Lib.compareBytes a.data.toList b.data.toList)) ∧ w' = w := by
  go_enter Yba.func15, Yba.ntmps15
  go_wp2_with fail
  refine Calls.mono (cmpStr_any _ _ _) ?_
  rintro e w' ⟨rfl, rfl⟩
  go_wp2
  go_ret
  exact ⟨rfl, rfl⟩

/-- What a selector picks. -/
def Is (sel n : Int) (s t : ByteArray) (m k : Int) : Prop :=
  (sel % 3 = 1 ∧ t = ByteArray.empty ∧ m = n ∧ k = 1) ∨ (sel % 3 = 2 ∧ t = s ∧ m = 0 ∧ k = 2) ∨ (sel % 3 = 0 ∧ t = ByteArray.empty ∧ m = 0 ∧ k = 0)

theorem val_null (sel n : Int) (s : ByteArray) (h0 : 0 ≤ sel) (hz : sel % 3 = 0) (w : World) :
    Calls Yba.prog 5 #[.int .u8 sel, .int .i64 n, .string s] w fun e w' => e = .returned (V ByteArray.empty 0 0) ∧ w' = w.alloc (.cells #[.string ByteArray.empty, .int .i64 0, .int .u8 0] 24) := by
  have h : sel.tmod 3 = sel % 3 := Int.tmod_eq_emod_of_nonneg h0
  go_enter Yba.func5, Yba.ntmps5
  go_wp2
  go_returns
  exact ⟨rfl, rfl⟩

theorem val_some (sel n : Int) (s : ByteArray) (h0 : 0 ≤ sel) (hz : sel % 3 ≠ 0) (w : World) :
    Calls Yba.prog 5 #[.int .u8 sel, .int .i64 n, .string s] w fun e w' => ∃ t m k, Is sel n s t m k ∧ e = .returned (V t m k) ∧ w' = (w.alloc (.cells #[.string t, .int .i64 m, .int .u8 k] 24)).alloc (.cells #[.string t, .int .i64 m, .int .u8 k] 24) := by
  have h : sel.tmod 3 = sel % 3 := Int.tmod_eq_emod_of_nonneg h0
  go_enter Yba.func5, Yba.ntmps5
  go_wp2
  · go_returns
    exact ⟨_, _, _, Or.inl ⟨by simpa using ‹(sel % 3 == 1) = true›, rfl, rfl, rfl⟩, rfl, rfl⟩
  · go_returns
    exact ⟨_, _, _, Or.inr (Or.inl ⟨by simpa using ‹(sel % 3 == 2) = true›, rfl, rfl, rfl⟩), rfl, rfl⟩

theorem val_any (sel n : Int) (s : ByteArray) (h0 : 0 ≤ sel) (w : World) :
    Calls Yba.prog 5 #[.int .u8 sel, .int .i64 n, .string s] w fun e w' => (∃ t m k, Is sel n s t m k ∧ e = .returned (V t m k)) ∧ Grown w w' := by
  by_cases hz : sel % 3 = 0
  · refine Calls.mono (val_null sel n s h0 hz w) ?_
    rintro e w' ⟨rfl, rfl⟩
    exact ⟨⟨_, _, _, Or.inr (Or.inr ⟨hz, rfl, rfl, rfl⟩), rfl⟩, by go_grown⟩
  · refine Calls.mono (val_some sel n s h0 hz w) ?_
    rintro e w' ⟨t, m, k, hI, rfl, rfl⟩
    exact ⟨⟨_, _, _, hI, rfl⟩, by go_grown⟩

/-- How two values stand. -/
def cmpV (ta : ByteArray) (na ka : Int) (tb : ByteArray) (nb kb : Int) : Int :=
  if ka = 1 ∧ kb = 1 then cmpI na nb else if ka = 0 ∧ kb = 0 then 0 else if ka = 0 then 1 else if kb = 0 then -1 else Lib.compareBytes ta.data.toList tb.data.toList

theorem compare_any (ta : ByteArray) (na ka : Int) (tb : ByteArray) (nb kb : Int) (w : World) :
    Calls Yba.prog 11 #[V ta na ka, V tb nb kb] w fun e w' => e = .returned (.int .i64 (cmpV ta na ka tb nb kb)) ∧ Grown w w' := by
  go_enter Yba.func11, Yba.ntmps11
  go_wp2_with (first
    | (go_at_call 13; refine Calls.mono (isNull_any _ _ _ _) ?_; rintro e w' ⟨rfl, rfl⟩)
    | (go_at_call 14; refine Calls.mono (cmpInt_any _ _ _) ?_; rintro e w' ⟨rfl, rfl⟩)
    | (go_at_call 15; refine Calls.mono (strCmp_any _ _ _) ?_; rintro e w' ⟨rfl, rfl⟩))
  all_goals (go_ret; refine ⟨?_, by go_grown⟩; simp_all [cmpV])

theorem openBelow_any (tl : ByteArray) (nl kl : Int) (th : ByteArray) (nh kh : Int) (il ih : Bool) (w : World) :
    Calls Yba.prog 10 #[.agg #[.string tl, .int .i64 nl, .int .u8 kl, .string th, .int .i64 nh, .int .u8 kh, .bool il, .bool ih]] w fun e w' => e = .returned (.bool (decide (kl = 0) && !il)) ∧ w' = (w.alloc (.cells #[.string tl, .int .i64 nl, .int .u8 kl, .string th, .int .i64 nh, .int .u8 kh, .bool il, .bool ih] 27)).alloc (.cells #[.string tl, .int .i64 nl, .int .u8 kl] 24) := by
  go_enter Yba.func10, Yba.ntmps10
  go_wp2_with (go_at_call 13; refine Calls.mono (isNull_any _ _ _ _) ?_; rintro e w' ⟨rfl, rfl⟩)
  all_goals (go_ret; refine ⟨?_, ?_⟩ <;> simp_all)

theorem Gr.cell {w w' : World} (h : Grown w w') {a : Addr} {v : Value} (hc : w.cell? a = some v) : w'.cell? a = some v := by
  obtain ⟨⟨_, _, hk⟩, _, _⟩ := h
  have hb := World.block_lt_of_cell? w a hc
  have hk := hk a.block hb
  unfold World.cell? at hc ⊢
  cases e : w.heap[a.block]? with
  | none => rw [e] at hc; simp at hc
  | some o =>
    rw [e] at hc hk
    cases o with
    | cells c t fr =>
      cases e' : w'.heap[a.block]? with
      | none => rw [e'] at hk; simp at hk
      | some o' =>
        rw [e'] at hk
        cases o' with
        | cells c' t' fr' =>
          obtain ⟨_, _, _, h4⟩ := hk
          have := h4 a.off (fun f => f)
          simp_all
        | _ => simp at hk
    | _ => simp at hc

/-- Whether a key that stands so comes before the range. -/
def befV (kl : Int) (il : Bool) (c : Int) : Bool := !(decide (kl = 0) && !il) && (decide (c < 0) || (decide (c = 0) && !il))

theorem before_any (tl : ByteArray) (nl kl : Int) (th : ByteArray) (nh kh : Int) (il ih : Bool) (t : ByteArray) (n k : Int) (w : World) :
    Calls Yba.prog 6 #[.agg #[.string tl, .int .i64 nl, .int .u8 kl, .string th, .int .i64 nh, .int .u8 kh, .bool il, .bool ih], V t n k] w fun e w' => e = .returned (.bool (befV kl il (cmpV t n k tl nl kl))) ∧ Grown w w' := by
  go_enter Yba.func6, Yba.ntmps6
  go_wp2_with (go_at_call 10; refine Calls.mono (openBelow_any _ _ _ _ _ _ _ _ _) ?_; rintro e w' ⟨rfl, rfl⟩)
  · go_ret
    refine ⟨?_, by go_grown⟩
    simp_all [befV]
  · have hne := ‹¬kl = 0 ∨ (!il) = false›
    refine Calls.mono (compare_any _ _ _ _ _ _ _) ?_
    rintro e w' ⟨rfl, hg⟩
    have hc := Gr.cell hg (a := ⟨w.heap.size, 6, none⟩) (v := .bool il) (by go_simp)
    have hG : Grown w w' := Gr.trans (by go_grown) hg
    have HB : Hid (∀ c, befV kl il c = (decide (c < 0) || (decide (c = 0) && !il))) := by
      have : ∀ c, befV kl il c = (decide (c < 0) || (decide (c = 0) && !il)) := by
        intro c
        rcases hne with h | h
        · simp [befV, h]
        · cases il <;> simp_all [befV]
      exact this
    clear hg hne
    by_cases h1 : cmpV t n k tl nl kl < 0
    · go_wp2
      go_ret
      exact ⟨by rw [HB.out]; simp_all, hG⟩
    · by_cases h2 : cmpV t n k tl nl kl = 0
      · go_wp2
        go_ret
        exact ⟨by rw [HB.out]; simp_all, hG⟩
      · go_wp2
        go_ret
        exact ⟨by rw [HB.out]; simp_all, hG⟩
end Go.Proofs.Ybulkblpa
