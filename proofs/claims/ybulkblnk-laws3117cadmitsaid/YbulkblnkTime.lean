/-
  THE CONTRACTS of time.Time's methods on the road: nsec, sec, addSec, Add, Equal: at times without the monotonic bit, no location.
-/
import Derived.Test.YbulkblnkRows
import Derived.Test.YbulkblnkBits
import Derived.WalkKit
import Derived.WalkSpells
import Derived.WalkLawsBesides
namespace Go.Proofs.Ybulkblnk
open Go.RowKit

theorem ret_int {k : IntKind} {a b : Int} (h : a = b) : Ending.returned (.int k a) = .returned (.int k b) := by rw [h]

theorem nsec_any (b off : Nat) (wl : Int) (w : World) (h0 : 0 ≤ wl) (h1 : wl < 1000000000) (hc : w.cell? ⟨b, off, none⟩ = some (.int .u64 wl)) :
    Calls Yba.prog 12 #[.pointer (some ⟨b, off, none⟩)] w fun e w' => e = .returned (.int .i32 wl) ∧ w' = w := by
  have hm := and_mask wl h0 h1
  go_enter Yba.func12, Yba.ntmps12
  go_wp2
  go_ret
  exact ⟨ret_int rfl, rfl⟩

theorem sec_any (b off : Nat) (wl e : Int) (w : World) (h0 : 0 ≤ wl) (h1 : wl < 1000000000) (hc : w.cell? ⟨b, off, none⟩ = some (.int .u64 wl)) (hc1 : w.cell? ⟨b, off + 1, none⟩ = some (.int .i64 e)) :
    Calls Yba.prog 16 #[.pointer (some ⟨b, off, none⟩)] w fun e' w' => e' = .returned (.int .i64 e) ∧ w' = w := by
  have ht := and_top wl h0 h1
  go_enter Yba.func16, Yba.ntmps16
  go_wp2
  go_ret
  exact ⟨ret_int rfl, rfl⟩

set_option maxHeartbeats 400000 in
theorem addSec_any (b off : Nat) (wl e d : Int) (w : World) (h0 : 0 ≤ wl) (h1 : wl < 1000000000) (e0 : -1000000000000 ≤ e) (e1 : e ≤ 1000000000000) (d0 : -1000000000000 ≤ d) (d1 : d ≤ 1000000000000)
    (hc : w.cell? ⟨b, off, none⟩ = some (.int .u64 wl)) (hc1 : w.cell? ⟨b, off + 1, none⟩ = some (.int .i64 e)) (hf : w.frozen? ⟨b, off + 1, none⟩ = false) :
    Calls Yba.prog 13 #[.pointer (some ⟨b, off, none⟩), .int .i64 d] w fun e' w' => e' = .returned (.tuple #[]) ∧ w' = w.setCell ⟨b, off + 1, none⟩ (.int .i64 (e + d)) := by
  have ht := and_top wl h0 h1
  have hcmp : (decide (e < e + d) == decide (0 < d)) = true := by
    rw [beq_iff_eq]; by_cases h : 0 < d
    · rw [decide_eq_true h, decide_eq_true (by omega)]
    · rw [decide_eq_false h, decide_eq_false (by omega)]
  go_enter Yba.func13, Yba.ntmps13
  go_wp2
  go_end0
  exact ⟨rfl, rfl⟩

set_option maxHeartbeats 400000 in
theorem add_mid (wl e d q r : Int) (w : World) (h0 : 0 ≤ wl) (h1 : wl < 1000000000) (e0 : -100000000000 ≤ e) (e1 : e ≤ 100000000000) (hq : d.tdiv 1000000000 = q) (hr : d.tmod 1000000000 = r) (q0 : -100000000000 ≤ q) (q1 : q ≤ 100000000000) (r0 : -1000000000 < r) (r1 : r < 1000000000)
    (c1 : wl + r < 1000000000) (c2 : 0 ≤ wl + r) :
    Calls Yba.prog 6 #[.agg #[.int .u64 wl, .int .i64 e, .pointer none], .int .i64 d] w fun e' w' => e' = .returned (.agg #[.int .u64 (wl + r), .int .i64 (e + (q)), .pointer none]) ∧ Below w.heap.size w w' := by
  have hm := andNot_mask wl h0 h1
  have ho := or_zero (wl + r) c2 c1
  have ht := and_top (wl + r) c2 c1
  go_enter Yba.func6, Yba.ntmps6
  go_wp2_with fail
  refine Calls.mono (nsec_any w.heap.size 0 wl _ h0 h1 ?_) ?_
  · simp
  rintro e' w1 ⟨rfl, rfl⟩
  go_wp2_with fail
  refine Calls.mono (addSec_any w.heap.size 0 (wl + r) e (q) _ c2 c1 (by omega) (by omega) (by omega) (by omega) ?_ ?_ ?_) ?_
  · simp
  · simp
  · simp
  rintro e' w1 ⟨rfl, rfl⟩
  go_wp2_with fail
  refine bodyPost_ret (v := .agg #[.int .u64 (wl + r), .int .i64 (e + (q)), .pointer none]) (by simp [results, Yba.results6, go_sem]) rfl ⟨rfl, ?_⟩
  exact ((Below.refl _ _).alloc (Nat.le_refl _) _).alloc (by simp) _

set_option maxHeartbeats 400000 in
theorem add_high (wl e d q r : Int) (w : World) (h0 : 0 ≤ wl) (h1 : wl < 1000000000) (e0 : -100000000000 ≤ e) (e1 : e ≤ 100000000000) (hq : d.tdiv 1000000000 = q) (hr : d.tmod 1000000000 = r) (q0 : -100000000000 ≤ q) (q1 : q ≤ 100000000000) (r0 : -1000000000 < r) (r1 : r < 1000000000)
    (c : 1000000000 ≤ wl + r) :
    Calls Yba.prog 6 #[.agg #[.int .u64 wl, .int .i64 e, .pointer none], .int .i64 d] w fun e' w' => e' = .returned (.agg #[.int .u64 (wl + r - 1000000000), .int .i64 (e + (q + 1)), .pointer none]) ∧ Below w.heap.size w w' := by
  have c1 : wl + r - 1000000000 < 1000000000 := by omega
  have c2 : 0 ≤ wl + r - 1000000000 := by omega
  have hm := andNot_mask wl h0 h1
  have ho := or_zero (wl + r - 1000000000) c2 c1
  have ht := and_top (wl + r - 1000000000) c2 c1
  go_enter Yba.func6, Yba.ntmps6
  go_wp2_with fail
  refine Calls.mono (nsec_any w.heap.size 0 wl _ h0 h1 ?_) ?_
  · simp
  rintro e' w1 ⟨rfl, rfl⟩
  go_wp2_with fail
  refine Calls.mono (addSec_any w.heap.size 0 (wl + r - 1000000000) e (q + 1) _ c2 c1 (by omega) (by omega) (by omega) (by omega) ?_ ?_ ?_) ?_
  · simp
  · simp
  · simp
  rintro e' w1 ⟨rfl, rfl⟩
  go_wp2_with fail
  refine bodyPost_ret (v := .agg #[.int .u64 (wl + r - 1000000000), .int .i64 (e + (q + 1)), .pointer none]) (by simp [results, Yba.results6, go_sem]) rfl ⟨rfl, ?_⟩
  exact ((Below.refl _ _).alloc (Nat.le_refl _) _).alloc (by simp) _

set_option maxHeartbeats 400000 in
theorem add_low (wl e d q r : Int) (w : World) (h0 : 0 ≤ wl) (h1 : wl < 1000000000) (e0 : -100000000000 ≤ e) (e1 : e ≤ 100000000000) (hq : d.tdiv 1000000000 = q) (hr : d.tmod 1000000000 = r) (q0 : -100000000000 ≤ q) (q1 : q ≤ 100000000000) (r0 : -1000000000 < r) (r1 : r < 1000000000)
    (c : wl + r < 0) :
    Calls Yba.prog 6 #[.agg #[.int .u64 wl, .int .i64 e, .pointer none], .int .i64 d] w fun e' w' => e' = .returned (.agg #[.int .u64 (wl + r + 1000000000), .int .i64 (e + (q - 1)), .pointer none]) ∧ Below w.heap.size w w' := by
  have c1 : wl + r + 1000000000 < 1000000000 := by omega
  have c2 : 0 ≤ wl + r + 1000000000 := by omega
  have hm := andNot_mask wl h0 h1
  have ho := or_zero (wl + r + 1000000000) c2 c1
  have ht := and_top (wl + r + 1000000000) c2 c1
  go_enter Yba.func6, Yba.ntmps6
  go_wp2_with fail
  refine Calls.mono (nsec_any w.heap.size 0 wl _ h0 h1 ?_) ?_
  · simp
  rintro e' w1 ⟨rfl, rfl⟩
  go_wp2_with fail
  refine Calls.mono (addSec_any w.heap.size 0 (wl + r + 1000000000) e (q - 1) _ c2 c1 (by omega) (by omega) (by omega) (by omega) ?_ ?_ ?_) ?_
  · simp
  · simp
  · simp
  rintro e' w1 ⟨rfl, rfl⟩
  go_wp2_with fail
  refine bodyPost_ret (v := .agg #[.int .u64 (wl + r + 1000000000), .int .i64 (e + (q - 1)), .pointer none]) (by simp [results, Yba.results6, go_sem]) rfl ⟨rfl, ?_⟩
  exact ((Below.refl _ _).alloc (Nat.le_refl _) _).alloc (by simp) _

/-- Add: the exact sum, in seconds and nanoseconds. -/
theorem add_any (wl e d : Int) (w : World) (h0 : 0 ≤ wl) (h1 : wl < 1000000000) (e0 : -100000000000 ≤ e) (e1 : e ≤ 100000000000) (d0 : -9223372036854775808 ≤ d) (d1 : d ≤ 9223372036854775807) :
    Calls Yba.prog 6 #[.agg #[.int .u64 wl, .int .i64 e, .pointer none], .int .i64 d] w fun e' w' => e' = .returned (.agg #[.int .u64 ((wl + d) % 1000000000), .int .i64 (e + (wl + d) / 1000000000), .pointer none]) ∧ Below w.heap.size w w' := by
  obtain ⟨p1, p2, p3⟩ := parts d
  obtain ⟨q, hq⟩ : ∃ q, d.tdiv 1000000000 = q := ⟨_, rfl⟩
  obtain ⟨r, hr⟩ : ∃ r, d.tmod 1000000000 = r := ⟨_, rfl⟩
  rw [hq, hr] at p1
  rw [hr] at p2 p3
  by_cases c1 : wl + r < 1000000000
  · by_cases c2 : 0 ≤ wl + r
    · have g1 : (wl + d) % 1000000000 = wl + r := by omega
      have g2 : (wl + d) / 1000000000 = q := by omega
      rw [g1, g2]
      exact add_mid wl e d q r w h0 h1 e0 e1 hq hr (by omega) (by omega) p2 p3 c1 c2
    · have g1 : (wl + d) % 1000000000 = wl + r + 1000000000 := by omega
      have g2 : (wl + d) / 1000000000 = q - 1 := by omega
      rw [g1, g2]
      exact add_low wl e d q r w h0 h1 e0 e1 hq hr (by omega) (by omega) p2 p3 (by omega)
  · have g1 : (wl + d) % 1000000000 = wl + r - 1000000000 := by omega
    have g2 : (wl + d) / 1000000000 = q + 1 := by omega
    rw [g1, g2]
    exact add_high wl e d q r w h0 h1 e0 e1 hq hr (by omega) (by omega) p2 p3 (by omega)

theorem add_zero (d : Int) (w : World) (d0 : -9223372036854775808 ≤ d) (d1 : d ≤ 9223372036854775807) :
    Calls Yba.prog 6 #[.agg #[.int .u64 0, .int .i64 0, .pointer none], .int .i64 d] w fun e' w' => e' = .returned (.agg #[.int .u64 (d % 1000000000), .int .i64 (d / 1000000000), .pointer none]) ∧ Below w.heap.size w w' := by
  have h := add_any 0 0 d w (by omega) (by omega) (by omega) (by omega) d0 d1
  rw [Int.zero_add, Int.zero_add] at h
  exact h

/-- Are the two times one? -/
def sameT (wl e wl' e' : Int) : Bool := decide (e = e' ∧ wl = wl')

theorem sameT_eq {wl e wl' e' : Int} (h : e = e') : sameT wl e wl' e' = (wl == wl') := by
  unfold sameT
  by_cases g : wl = wl'
  · rw [decide_eq_true ⟨h, g⟩]; exact (beq_iff_eq.2 g).symm
  · rw [decide_eq_false (fun x => g x.2)]; exact (beq_eq_false_iff_ne.2 g).symm
theorem sameT_ne {wl e wl' e' : Int} (h : ¬ e = e') : sameT wl e wl' e' = false := decide_eq_false (fun x => h x.1)

set_option maxHeartbeats 400000 in
theorem equal_any (wl e wl' e' : Int) (w : World) (h0 : 0 ≤ wl) (h1 : wl < 1000000000) (g0 : 0 ≤ wl') (g1 : wl' < 1000000000) :
    Calls Yba.prog 9 #[.agg #[.int .u64 wl, .int .i64 e, .pointer none], .agg #[.int .u64 wl', .int .i64 e', .pointer none]] w fun r w' => r = .returned (.bool (sameT wl e wl' e')) ∧ w' = (w.alloc (.cells #[.int .u64 wl, .int .i64 e, .pointer none] 32)).alloc (.cells #[.int .u64 wl', .int .i64 e', .pointer none] 32) := by
  have ht := and2_top wl wl' h0 h1 g0 g1
  go_enter Yba.func9, Yba.ntmps9
  go_wp2_with fail
  refine Calls.mono (sec_any w.heap.size 0 wl e _ h0 h1 ?_ ?_) ?_
  · simp
  · simp
  rintro r w1 ⟨rfl, rfl⟩
  go_wp2_with fail
  refine Calls.mono (sec_any (w.heap.size + 1) 0 wl' e' _ g0 g1 ?_ ?_) ?_
  · simp
  · simp
  rintro r w1 ⟨rfl, rfl⟩
  by_cases he : e = e'
  · have hb : (e == e') = true := by simpa using he
    have HS : Hid (sameT wl e wl' e' = (wl == wl')) := sameT_eq he
    clear he
    go_wp2_with fail
    refine Calls.mono (nsec_any w.heap.size 0 wl _ h0 h1 ?_) ?_
    · simp
    rintro r w1 ⟨rfl, rfl⟩
    go_wp2_with fail
    refine Calls.mono (nsec_any (w.heap.size + 1) 0 wl' _ g0 g1 ?_) ?_
    · simp
    rintro r w1 ⟨rfl, rfl⟩
    go_wp2_with fail
    go_ret
    exact ⟨by rw [HS.out]; rfl, rfl⟩
  · have hb : (e == e') = false := by simpa using he
    have HS : Hid (sameT wl e wl' e' = false) := sameT_ne he
    clear he
    go_wp2_with fail
    go_ret
    exact ⟨by rw [HS.out]; rfl, rfl⟩
end Go.Proofs.Ybulkblnk
