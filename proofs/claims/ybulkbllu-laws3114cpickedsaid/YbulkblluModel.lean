/-
  THE CONTRACT of zzs3114cmodel (its inner loop's test reads two cells in an open order: it draws).
-/
import Derived.Test.YbulkblluFit
import Derived.Deep.QuietTactic
import Derived.BigQuiet
namespace Go.Proofs.Ybulkbllu
open Go.RowKit

theorem Row.drewN {w : World} {a0 : Option Addr} {l : List ByteArray} (h : Row w a0 l) (n : Nat) : Row (w.drewN n) a0 l := by
  rcases h with h | ⟨b, off, e, hc⟩
  · exact Or.inl h
  · refine Or.inr ⟨b, off, e, fun i hi => ?_⟩
    have := hc i hi
    simpa using this

set_option maxHeartbeats 1000000 in
theorem model_any (ra oa ha : Option Addr) (req opt h : List ByteArray) (rc oc hc : Nat) (w : World) (lr : req.length ≤ 1000000) (lo : opt.length ≤ 1000000) (lh : h.length ≤ 1000000)
    (Rr : Row w ra req) (Ro : Row w oa opt) (Rh : Row w ha h) :
    Calls Yba.prog 6 #[.slice ra req.length rc, .slice oa opt.length oc, .slice ha h.length hc] w fun e w' => e = .returned (.bool (fits req opt h)) ∧ ∃ n, w' = w.drewN n := by
  go_enter Yba.func6, Yba.ntmps6
  go_wp2
  go_loopw [7] (fun i wr => ∃ k n : Nat, k ≤ h.length ∧ i = .int .i64 k ∧ okTo req opt h k = true ∧ wr = w.drewN n) (fun i _ => h.length - (intOf i).toNat)
  case atStart => exact ⟨0, 0, Nat.zero_le _, rfl, rfl, rfl⟩
  case round =>
    obtain ⟨k, n, hk, rfl, hn, rfl⟩ := hrel
    have HN : Hid (okTo req opt h k = true) := hn
    clear hn
    by_cases hlt : k < h.length
    · have HRh : Hid (Row w ha h) := Rh
      rcases Rh with rfl | ⟨b, off, rfl, hcells⟩
      · simp at hlt
      · have hck := hcells k hlt
        have HD : Hid (hasB (h.take k) h[k] = true → fits req opt h = false) := fun e => fits_no_ok hlt (okAt_dup hlt e)
        have HU : Hid (hasB req h[k] = false → hasB opt h[k] = false → fits req opt h = false) := fun e1 e2 => fits_no_ok hlt (okAt_unknown hlt e1 e2)
        have HQ : Hid (hasB (h.take k) h[k] = false → hasB req h[k] = true → okTo req opt h (k + 1) = true) := fun e1 e2 => okTo_succ HN.out (okAt_req hlt e1 e2)
        have HO : Hid (hasB (h.take k) h[k] = false → hasB opt h[k] = true → okTo req opt h (k + 1) = true) := fun e1 e2 => okTo_succ HN.out (okAt_opt hlt e1 e2)
        clear HN
        generalize h[k] = x at *
        go_wp2
        go_loopw [8] (fun j wr => ∃ q m : Nat, q ≤ k ∧ j = .int .i64 q ∧ hasB (h.take q) x = false ∧ wr = w.drewN m) (fun j _ => k - (intOf j).toNat)
        case atStart => exact ⟨0, n, Nat.zero_le _, rfl, rfl, rfl⟩
        case round =>
          obtain ⟨q, m, hq, rfl, hz, rfl⟩ := hrel
          by_cases hlq : q < k
          · have hqh : q < h.length := by omega
            have hcq := hcells q hqh
            have hst : hasB (h.take (q + 1)) x = (hasB (h.take q) x || h[q].toList == x.toList) := hasB_step h x q hqh
            have hhit : (h[q].toList == x.toList) = true → hasB (h.take k) x = true := fun e =>
              hasB_hit (h.take k) x q (by rw [List.length_take]; omega) (by rw [List.getElem_take]; exact e)
            clear hcells
            generalize h[q] = y at *
            cases he : (y.toList == x.toList) with
            | true =>
              have HF : Hid (fits req opt h = false) := HD.out (hhit he)
              clear hst hhit hz
              go_wp2
              go_quiet (fail)
              go_wp2
              go_ret
              exact ⟨by rw [HF.out]; rfl, _, World.drewN_drewN ..⟩
            | false =>
              have HF : Hid (hasB (h.take (q + 1)) x = false) := by rw [hst, hz, he]; rfl
              clear hst hhit hz
              go_wp2
              go_quiet (fail)
              go_wp2
              go_roundw
              case rel => exact ⟨q + 1, _, by omega, by go_num, HF.out, rfl⟩
              case measure => simp [intOf]; omega
          · obtain rfl : q = k := by omega
            have Hz : Hid (hasB (h.take q) x = false) := hz
            clear hz hcells
            go_wp2_with fail
            refine (in_at ra req req.length rc x _ rfl lr (Rr.drewN _)).mono ?_
            rintro e w' ⟨rfl, rfl⟩
            cases hq : hasB req x with
            | true =>
              have HF : Hid (okTo req opt h (q + 1) = true) := HQ.out Hz.out hq
              clear hq
              go_wp2_with fail
              go_roundw
              case rel => exact ⟨q + 1, _, by omega, by go_num, HF.out, rfl⟩
              case measure => simp [intOf]; omega
            | false =>
              have Hq : Hid (hasB req x = false) := hq
              clear hq
              go_wp2_with fail
              refine (in_at oa opt opt.length oc x _ rfl lo (Ro.drewN _)).mono ?_
              rintro e w' ⟨rfl, rfl⟩
              cases ho : hasB opt x with
              | true =>
                have HF : Hid (okTo req opt h (q + 1) = true) := HO.out Hz.out ho
                clear ho
                go_wp2_with fail
                go_roundw
                case rel => exact ⟨q + 1, _, by omega, by go_num, HF.out, rfl⟩
                case measure => simp [intOf]; omega
              | false =>
                have HF : Hid (fits req opt h = false) := HU.out Hq.out ho
                clear ho
                go_wp2_with fail
                go_ret
                exact ⟨by rw [HF.out]; rfl, _, rfl⟩
    · have HN1 : Hid (okTo req opt h h.length = true) := by
        obtain rfl : k = h.length := by omega
        exact HN.out
      clear HN
      go_wp2
      go_loopw [9] (fun i wr => ∃ j n : Nat, j ≤ req.length ∧ i = .int .i64 j ∧ reqTo req h j = true ∧ wr = w.drewN n) (fun i _ => req.length - (intOf i).toNat)
      case atStart => exact ⟨0, n, Nat.zero_le _, rfl, rfl, rfl⟩
      case round =>
        obtain ⟨j, n, hj, rfl, hm, rfl⟩ := hrel
        have HM : Hid (reqTo req h j = true) := hm
        clear hm
        by_cases hlt2 : j < req.length
        · rcases Rr with rfl | ⟨b, off, rfl, hcells⟩
          · simp at hlt2
          · have hck := hcells j hlt2
            have HY : Hid (hasB h req[j] = true → reqTo req h (j + 1) = true) := fun e => reqTo_succ hlt2 HM.out e
            have HX : Hid (hasB h req[j] = false → fits req opt h = false) := fun e => fits_no_req hlt2 e
            clear hcells HM
            generalize req[j] = x at *
            go_wp2_with fail
            refine (in_at ha h h.length hc x _ rfl lh (Rh.drewN _)).mono ?_
            rintro e w' ⟨rfl, rfl⟩
            cases hd : hasB h x with
            | true =>
              have HF : Hid (reqTo req h (j + 1) = true) := HY.out hd
              clear hd
              go_wp2_with fail
              go_roundw
              case rel => exact ⟨j + 1, _, by omega, by go_num, HF.out, rfl⟩
              case measure => simp [intOf]; omega
            | false =>
              have HF : Hid (fits req opt h = false) := HX.out hd
              clear hd
              go_wp2_with fail
              go_ret
              exact ⟨by rw [HF.out]; rfl, _, rfl⟩
        · have HF : Hid (fits req opt h = true) := by
            obtain rfl : j = req.length := by omega
            exact fits_yes HN1.out HM.out
          clear HM HN1
          go_wp2
          go_ret
          exact ⟨by rw [HF.out]; rfl, _, rfl⟩
end Go.Proofs.Ybulkbllu
