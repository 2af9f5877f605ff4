/-
  THE WALK of LawS3114CModel.
-/
import Derived.Test.YbulkblluModel
namespace Go.Proofs.Ybulkbllu
open Go.RowKit

theorem fit_at (ra oa ha : Option Addr) (req opt h : List ByteArray) (nr no nh rc oc hc : Nat) (w : World) (er : req.length = nr) (eo : opt.length = no) (eh : h.length = nh) (lr : nr ≤ 1000000) (lo : no ≤ 1000000) (lh : nh ≤ 1000000) (hcap : nh ≤ hc)
    (Rr : Row w ra req) (Ro : Row w oa opt) (Rh : Row w ha h) :
    Calls Yba.prog 5 #[.agg #[.slice ra nr rc, .slice oa no oc], .slice ha nh hc] w fun e w' => e = .returned (.bool (fits req opt h)) ∧ Below w.heap.size w w' := by
  subst er eo eh
  exact fit_any ra oa ha req opt h rc oc hc w lr lo lh hcap Rr Ro Rh
theorem model_at (ra oa ha : Option Addr) (req opt h : List ByteArray) (nr no nh rc oc hc : Nat) (w : World) (er : req.length = nr) (eo : opt.length = no) (eh : h.length = nh) (lr : nr ≤ 1000000) (lo : no ≤ 1000000) (lh : nh ≤ 1000000)
    (Rr : Row w ra req) (Ro : Row w oa opt) (Rh : Row w ha h) :
    Calls Yba.prog 6 #[.slice ra nr rc, .slice oa no oc, .slice ha nh hc] w fun e w' => e = .returned (.bool (fits req opt h)) ∧ ∃ n, w' = w.drewN n := by
  subst er eo eh
  exact model_any ra oa ha req opt h rc oc hc w lr lo lh Rr Ro Rh

theorem below_drawn {B : Nat} {a w : World} (h : Below B a w) (n : Nat) : Below B a (w.drewN n) := ⟨h.os, h.tape, h.output, h.size, h.block⟩

set_option maxHeartbeats 1000000 in
theorem law_model (ra oa ha : Option Addr) (req opt h : List ByteArray) (nr no nh rc oc hc : Nat) (w : World) (er : req.length = nr) (eo : opt.length = no) (eh : h.length = nh) (mr : nr ≤ maxLen) (mo : no ≤ maxLen) (mh : nh ≤ maxLen) (hcap : nh ≤ hc)
    (Rr : Row w ra req) (Ro : Row w oa opt) (Rh : Row w ha h) :
    Calls Yba.prog 3 #[.slice ra nr rc, .slice oa no oc, .slice ha nh hc] w fun e w' => e = .returned (.bool true) ∧ Below w.heap.size w w' := by
  unfold maxLen at mr mo mh
  have Er : Hid (req.length = nr) := er
  have Eo : Hid (opt.length = no) := eo
  have Eh : Hid (h.length = nh) := eh
  clear er eo eh
  by_cases h1 : 1024 < nr
  · go_enter Yba.func3, Yba.ntmps3
    go_wp2
    go_ret
    exact ⟨rfl, Below.refl _ _⟩
  by_cases h2 : 1024 < no
  · go_enter Yba.func3, Yba.ntmps3
    go_wp2
    go_ret
    exact ⟨rfl, Below.refl _ _⟩
  by_cases h3 : 1024 < nh
  · go_enter Yba.func3, Yba.ntmps3
    go_wp2
    go_ret
    exact ⟨rfl, Below.refl _ _⟩
  have b1 : Below w.heap.size w (w.alloc (.cells #[.slice ra nr rc, .slice oa no oc] 24)) := (Below.refl _ _).alloc (Nat.le_refl _) _
  have HB1 : Hid (Below w.heap.size w (w.alloc (.cells #[.slice ra nr rc, .slice oa no oc] 24))) := b1
  have Rr1 := Rr.below b1
  have Ro1 := Ro.below b1
  have Rh1 := Rh.below b1
  clear b1
  go_enter Yba.func3, Yba.ntmps3
  go_wp2_with fail
  refine (fit_at ra oa ha req opt h nr no nh rc oc hc _ Er.out Eo.out Eh.out (by omega) (by omega) (by omega) hcap Rr1 Ro1 Rh1).mono ?_
  rintro e w1 ⟨rfl, hb1⟩
  have b2 : Below w.heap.size w w1 := HB1.out.trans (hb1.mono (by simp))
  have HB2 : Hid (Below w.heap.size w w1) := b2
  have Rr2 := Rr.below b2
  have Ro2 := Ro.below b2
  have Rh2 := Rh.below b2
  clear b2 hb1 HB1
  go_wp2_with fail
  refine (model_at ra oa ha req opt h nr no nh rc oc hc _ Er.out Eo.out Eh.out (by omega) (by omega) (by omega) Rr2 Ro2 Rh2).mono ?_
  rintro e w2 ⟨rfl, n, rfl⟩
  go_wp2_with fail
  go_ret
  exact ⟨by simp, below_drawn HB2.out _⟩
end Go.Proofs.Ybulkbllu
