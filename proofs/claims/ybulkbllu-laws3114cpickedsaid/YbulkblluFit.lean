/-
  THE CONTRACT of columns.fit.
-/
import Derived.Test.YbulkblluIn
namespace Go.Proofs.Ybulkbllu
open Go.RowKit

theorem Row.below {w w' : World} {a0 : Option Addr} {l : List ByteArray} (h : Row w a0 l) (hb : Below w.heap.size w w') : Row w' a0 l := by
  rcases h with h | ⟨b, off, e, hc⟩
  · exact Or.inl h
  · refine Or.inr ⟨b, off, e, fun i hi => ?_⟩
    rw [hb.cell (p := ⟨b, off + i, none⟩) (World.block_lt_of_cell? _ _ (hc i hi))]
    exact hc i hi
theorem Row.take {w : World} {a0 : Option Addr} {l : List ByteArray} (h : Row w a0 l) (k : Nat) : Row w a0 (l.take k) := by
  rcases h with rfl | ⟨b, off, e, hc⟩
  · exact Or.inl (by simp)
  · refine Or.inr ⟨b, off, e, fun i hi => ?_⟩
    rw [List.length_take] at hi
    rw [hc i (by omega), List.getElem_take]
theorem contains_at (a0 : Option Addr) (l : List ByteArray) (n cap : Nat) (s : ByteArray) (w : World) (hn : l.length = n) (hl : n ≤ 1000000) (hr : Row w a0 l) :
    Calls Yba.prog 8 #[.slice a0 n cap, .string s] w fun e w' => e = .returned (.bool (hasB l s)) ∧ w' = w := by
  subst hn
  exact contains_any a0 l cap s w hl hr
theorem in_at (a0 : Option Addr) (l : List ByteArray) (n cap : Nat) (s : ByteArray) (w : World) (hn : l.length = n) (hl : n ≤ 1000000) (hr : Row w a0 l) :
    Calls Yba.prog 7 #[.slice a0 n cap, .string s] w fun e w' => e = .returned (.bool (hasB l s)) ∧ w' = w := by
  subst hn
  exact in_any a0 l cap s w hl hr

set_option maxHeartbeats 1000000 in
theorem fit_any (ra oa ha : Option Addr) (req opt h : List ByteArray) (rc oc hc : Nat) (w : World) (lr : req.length ≤ 1000000) (lo : opt.length ≤ 1000000) (lh : h.length ≤ 1000000) (hcap : h.length ≤ hc)
    (Rr : Row w ra req) (Ro : Row w oa opt) (Rh : Row w ha h) :
    Calls Yba.prog 5 #[.agg #[.slice ra req.length rc, .slice oa opt.length oc], .slice ha h.length hc] w fun e w' => e = .returned (.bool (fits req opt h)) ∧ Below w.heap.size w w' := by
  have hbel : Below w.heap.size w (w.alloc (.cells #[.slice ra req.length rc, .slice oa opt.length oc] 24)) := (Below.refl _ _).alloc (Nat.le_refl _) _
  have Rr1 := Rr.below hbel
  have Ro1 := Ro.below hbel
  have Rh1 := Rh.below hbel
  have HB : Hid (Below w.heap.size w (w.alloc (.cells #[.slice ra req.length rc, .slice oa opt.length oc] 24))) := hbel
  clear hbel Rr Ro Rh
  go_enter Yba.func5, Yba.ntmps5
  go_wp2
  go_loop [11] (fun i => ∃ k : Nat, k ≤ h.length ∧ i = .int .i64 k ∧ okTo req opt h k = true) (fun i => h.length - (intOf i).toNat)
  case atStart => exact ⟨0, Nat.zero_le _, rfl, rfl⟩
  case round =>
    obtain ⟨k, hk, rfl, hn⟩ := hrel
    have HN : Hid (okTo req opt h k = true) := hn
    clear hn
    by_cases hlt : k < h.length
    · have Rt := Rh1.take k
      have HR : Hid (Row (w.alloc (.cells #[.slice ra req.length rc, .slice oa opt.length oc] 24)) ha h) := Rh1
      rcases Rh1 with rfl | ⟨b, off, rfl, hcells⟩
      · simp at hlt
      · have hck := hcells k hlt
        have htl : (h.take k).length = k := by rw [List.length_take]; omega
        have HD : Hid (hasB (h.take k) h[k] = true → fits req opt h = false) := fun e => fits_no_ok hlt (okAt_dup hlt e)
        have HU : Hid (hasB req h[k] = false → hasB opt h[k] = false → fits req opt h = false) := fun e1 e2 => fits_no_ok hlt (okAt_unknown hlt e1 e2)
        have HQ : Hid (hasB (h.take k) h[k] = false → hasB req h[k] = true → okTo req opt h (k + 1) = true) := fun e1 e2 => okTo_succ HN.out (okAt_req hlt e1 e2)
        have HO : Hid (hasB (h.take k) h[k] = false → hasB opt h[k] = true → okTo req opt h (k + 1) = true) := fun e1 e2 => okTo_succ HN.out (okAt_opt hlt e1 e2)
        have HT : Hid ((h.take k).length = k) := htl
        clear hcells HN htl
        generalize h[k] = x at *
        have hkc : k ≤ hc := by omega
        go_wp2_with fail
        refine (contains_at (some ⟨b, off, none⟩) (h.take k) k hc x _ HT.out (by omega) Rt).mono ?_
        rintro e w' ⟨rfl, rfl⟩
        cases hd : hasB (h.take k) x with
        | true =>
          have HF : Hid (fits req opt h = false) := HD.out hd
          clear hd
          go_wp2_with fail
          go_ret
          exact ⟨by rw [HF.out]; rfl, HB.out⟩
        | false =>
          have Hd : Hid (hasB (h.take k) x = false) := hd
          clear hd
          go_wp2_with fail
          refine (contains_at ra req req.length rc x _ rfl lr Rr1).mono ?_
          rintro e w' ⟨rfl, rfl⟩
          cases hq : hasB req x with
          | true =>
            have HF : Hid (okTo req opt h (k + 1) = true) := HQ.out Hd.out hq
            clear hq
            go_wp2_with fail
            go_round
            case rel => exact ⟨k + 1, by omega, by go_num, HF.out⟩
            case measure => simp [intOf]; omega
          | false =>
            have Hq : Hid (hasB req x = false) := hq
            clear hq
            go_wp2_with fail
            refine (contains_at oa opt opt.length oc x _ rfl lo Ro1).mono ?_
            rintro e w' ⟨rfl, rfl⟩
            cases ho : hasB opt x with
            | true =>
              have HF : Hid (okTo req opt h (k + 1) = true) := HO.out Hd.out ho
              clear ho
              go_wp2_with fail
              go_round
              case rel => exact ⟨k + 1, by omega, by go_num, HF.out⟩
              case measure => simp [intOf]; omega
            | false =>
              have HF : Hid (fits req opt h = false) := HU.out Hq.out ho
              clear ho
              go_wp2_with fail
              go_ret
              exact ⟨by rw [HF.out]; rfl, HB.out⟩
    · have HN1 : Hid (okTo req opt h h.length = true) := by have : k = h.length := by omega
                                                            subst this; exact HN.out
      clear HN
      go_wp2
      go_loop [39] (fun i => ∃ j : Nat, j ≤ req.length ∧ i = .int .i64 j ∧ reqTo req h j = true) (fun i => req.length - (intOf i).toNat)
      case atStart => exact ⟨0, Nat.zero_le _, rfl, rfl⟩
      case round =>
        obtain ⟨j, hj, rfl, hm⟩ := hrel
        have HM : Hid (reqTo req h j = true) := hm
        clear hm
        by_cases hlt2 : j < req.length
        · rcases Rr1 with rfl | ⟨b, off, rfl, hcells⟩
          · simp at hlt2
          · have hck := hcells j hlt2
            have HY : Hid (hasB h req[j] = true → reqTo req h (j + 1) = true) := fun e => reqTo_succ hlt2 HM.out e
            have HX : Hid (hasB h req[j] = false → fits req opt h = false) := fun e => fits_no_req hlt2 e
            clear hcells HM
            generalize req[j] = x at *
            go_wp2_with fail
            refine (contains_at ha h h.length hc x _ rfl lh Rh1).mono ?_
            rintro e w' ⟨rfl, rfl⟩
            cases hd : hasB h x with
            | true =>
              have HF : Hid (reqTo req h (j + 1) = true) := HY.out hd
              clear hd
              go_wp2_with fail
              go_round
              case rel => exact ⟨j + 1, by omega, by go_num, HF.out⟩
              case measure => simp [intOf]; omega
            | false =>
              have HF : Hid (fits req opt h = false) := HX.out hd
              clear hd
              go_wp2_with fail
              go_ret
              exact ⟨by rw [HF.out]; rfl, HB.out⟩
        · have HF : Hid (fits req opt h = true) := by
            have : j = req.length := by omega
            subst this
            exact fits_yes HN1.out HM.out
          clear HM HN1
          go_wp2
          go_ret
          exact ⟨by rw [HF.out]; rfl, HB.out⟩
end Go.Proofs.Ybulkbllu
