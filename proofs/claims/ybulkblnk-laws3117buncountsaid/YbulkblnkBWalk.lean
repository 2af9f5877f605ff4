/-
  THE WALK of LawS3117BUncount.
-/
import Derived.Test.YbulkblnkKey
import Derived.Deep.DeepCutAuto
import Derived.OwnWalk
import Derived.Deep.RegionHeld3
namespace Go.Proofs.Ybulkblnk
open Go.RowKit Go.Maps

theorem info9 : (Yba.prog.info? 9).map (fun i => (i.zero, i.size, i.bytes)) = some (some (.string ByteArray.empty), 1, 16) := by kernel_rfl

/-- What a row of the call's own gives: its cells are there, none is frozen. -/
theorem own_open {w : World} {base g n cap : Nat} {xs : List Value} (h : w.ownsRow base 9 1 (.slice (some ⟨g, 0, none⟩) n cap) n xs) :
    (∀ j, j < n → ∃ v, w.cell? ⟨g, j, none⟩ = some v) ∧ (∀ j, w.frozen? ⟨g, j, none⟩ = false) ∧ g < w.heap.size := by
  have hx := h.1
  rcases h.2 with ⟨h, _⟩ | ⟨g', cap', cur, h, _, hg, h3, _, h5, h6⟩
  · cases h
  · simp only [Value.slice.injEq, Option.some.injEq, Addr.mk.injEq] at h
    obtain ⟨⟨rfl, _, _⟩, _, rfl⟩ := h
    refine ⟨fun j hj => ?_, fun j => ?_, (Array.getElem?_eq_some_iff.1 hg).1⟩
    · rw [cell_of_row w g j _ _ _ hg]
      exact ⟨_, Array.getElem?_eq_getElem (by omega)⟩
    · simp [World.frozen?, hg]

theorem val_some {x c : Int} (h : (.lit (.int .i64 c) : DataW Unit) = val (some x) (.lit (.int .i64 0))) : c = x := by simpa [val] using h

theorem box_cells {w : World} {a b c d : Value} {t : TypeId} {o : Obj} (j : Nat) (v : Value) (h : (#[a, b, c, d] : Array Value)[j]? = some v) : ((w.alloc (.cells #[a, b, c, d] t)).alloc o).cell? ⟨w.heap.size, j, none⟩ = some v := by
  have e : ((w.alloc (.cells #[a, b, c, d] t)).alloc o).heap[w.heap.size]? = some (.cells #[a, b, c, d] t) :=
    (heap_alloc_old (w.alloc _) o (by simp)).trans (heap_alloc_new w _)
  rw [cell_of_row _ w.heap.size j _ _ _ e]
  exact h

set_option maxRecDepth 100000 in
set_option maxHeartbeats 80000000 in
theorem law_uncount (c0 c1 c2 c3 p : Int) (ia : Option Addr) (idx : List Int) (ni ic : Nat) (arriving counted sameAt : Bool) (instN atN : Int) (w : World)
    (wc0 : (Lit.int .i64 c0).wf = true) (wc1 : (Lit.int .i64 c1).wf = true) (wc2 : (Lit.int .i64 c2).wf = true) (wc3 : (Lit.int .i64 c3).wf = true) (ei : idx.length = ni) (mi : ni ≤ maxLen) (Ri : RowU w ia idx) (zi : ia = none → ni = 0 ∧ ic = 0)
    (n0 : -9223372036854775808 ≤ instN) (n1 : instN ≤ 9223372036854775807) (m0 : -9223372036854775808 ≤ atN) (m1 : atN ≤ 9223372036854775807) :
    Calls Yba.prog 3 #[.agg #[.int .i64 c0, .int .i64 c1, .int .i64 c2, .int .i64 c3], .int .u8 p, .slice ia ni ic, .bool arriving, .bool counted, .bool sameAt, .int .i64 instN, .int .i64 atN] w fun e w' => e = .returned (.bool true) ∧ Below w.heap.size w w' := by
  unfold maxLen at mi
  have Ei : Hid (idx.length = ni) := ei
  have Zi : Hid (ia = none → ni = 0 ∧ ic = 0) := zi
  have W0 : Hid ((Lit.int .i64 c0).wf = true) := wc0
  have W1 : Hid ((Lit.int .i64 c1).wf = true) := wc1
  have W2 : Hid ((Lit.int .i64 c2).wf = true) := wc2
  have W3 : Hid ((Lit.int .i64 c3).wf = true) := wc3
  have N : Hid ((-9223372036854775808 ≤ instN ∧ instN ≤ 9223372036854775807) ∧ -9223372036854775808 ≤ atN ∧ atN ≤ 9223372036854775807) := ⟨⟨n0, n1⟩, m0, m1⟩
  clear ei zi wc0 wc1 wc2 wc3 n0 n1 m0 m1
  by_cases h1 : 1024 < ni
  · go_enter Yba.func3, Yba.ntmps3
    go_wp2
    go_ret
    exact ⟨rfl, (Below.refl _ _).alloc (Nat.le_refl _) _⟩
  have hmm := @run_makeMap Yba.prog
  go_enter Yba.func3, Yba.ntmps3
  go_wp2
  clear hmm
  have hM0 : MapIs ((w.alloc (.cells #[.int .i64 c0, .int .i64 c1, .int .i64 c2, .int .i64 c3] 22)).alloc (.map #[] 0)) (w.heap.size + 1) 0 (FT p (cn c0 c1 c2 c3) 0) := by
    have h := World.ownsMap_made (w.alloc (.cells #[.int .i64 c0, .int .i64 c1, .int .i64 c2, .int .i64 c3] 22)) Yba.prog 9 (plainElem (H := Unit) Yba.prog 3)
    rw [World.size_alloc] at h
    exact ⟨_, h, sees_empty⟩
  go_loopw [18] (fun i wr => ∃ k : Nat, k ≤ 4 ∧ i = .int .i64 k ∧ MapIs wr (w.heap.size + 1) k (FT p (cn c0 c1 c2 c3) k) ∧
      ((w.alloc (.cells #[.int .i64 c0, .int .i64 c1, .int .i64 c2, .int .i64 c3] 22)).alloc (.map #[] 0)).grownBy wr (some (w.heap.size + 1))) (fun i _ => 4 - (intOf i).toNat)
  case atStart => exact ⟨0, Nat.zero_le _, rfl, hM0, World.grownBy.refl _ _⟩
  case round =>
    clear hM0
    obtain ⟨k, hk, rfl, hM, hg⟩ := hrel
    have hcc : ∀ (j : Nat) v, (#[.int .i64 c0, .int .i64 c1, .int .i64 c2, .int .i64 c3] : Array Value)[j]? = some v → wr.cell? ⟨w.heap.size, j, none⟩ = some v := fun j v hv => hg.cell (box_cells j v hv) (by simp)
    rcases (show k = 0 ∨ k = 1 ∨ k = 2 ∨ k = 3 ∨ k = 4 from by omega) with rfl | rfl | rfl | rfl | rfl
    · have hcl := hcc 0 _ rfl
      clear hcc
      cases hb : (bits BinOp.and IntKind.u8 p 1 != 0) with
      | true =>
        as_aux_lemma =>
        obtain ⟨D, hown, hsees⟩ := hM
        obtain ⟨w4, hrun, hown4, hgrow4⟩ := (hown.drew).update law Yba.underlying25 (by unfold maxLen; omega) (keyIs (s := keyS 0) (by decide)) (plainElem_int Yba.underlying3 (a := c0) W0.out)
        have hM4 : MapIs w4 (w.heap.size + 1) 1 (FT p (cn c0 c1 c2 c3) 1) := ⟨_, hown4, (hsees.put hown.isMap _ _).congr (FT_yes hb)⟩
        have hg4 := hg.trans (World.grownBy.trans (⟨rfl, rfl, rfl, Nat.le_refl _, fun _ _ _ => rfl⟩ : wr.grownBy wr.drew (some (w.heap.size + 1))) hgrow4)
        have HM4 : Hid (MapIs w4 (w.heap.size + 1) 1 (FT p (cn c0 c1 c2 c3) 1)) := hM4
        have HG4 : Hid (((w.alloc (.cells #[.int .i64 c0, .int .i64 c1, .int .i64 c2, .int .i64 c3] 22)).alloc (.map #[] 0)).grownBy w4 (some (w.heap.size + 1))) := hg4
        clear hM4 hg4 hown4 hgrow4 hown hsees
        go_wp2
        go_region_with (go_at_call 5; refine Calls.mono (key_any 0 _ (by omega) (by omega)) ?_; rintro r w1 ⟨rfl, rfl⟩)
        all_goals
          go_wp2
          go_roundw
          case rel => exact ⟨1, by omega, rfl, HM4.out, HG4.out⟩
          case measure => simp [intOf]
      | false =>
        as_aux_lemma =>
        have HM4 : Hid (MapIs wr (w.heap.size + 1) 1 (FT p (cn c0 c1 c2 c3) 1)) := (hM.mono (by omega)).congr (FT_no hb)
        clear hM
        go_wp2
        go_roundw
        case rel => exact ⟨1, by omega, rfl, HM4.out, hg⟩
        case measure => simp [intOf]
    · have hcl := hcc 1 _ rfl
      clear hcc
      cases hb : (bits BinOp.and IntKind.u8 p 2 != 0) with
      | true =>
        as_aux_lemma =>
        obtain ⟨D, hown, hsees⟩ := hM
        obtain ⟨w4, hrun, hown4, hgrow4⟩ := (hown.drew).update law Yba.underlying25 (by unfold maxLen; omega) (keyIs (s := keyS 1) (by decide)) (plainElem_int Yba.underlying3 (a := c1) W1.out)
        have hM4 : MapIs w4 (w.heap.size + 1) 2 (FT p (cn c0 c1 c2 c3) 2) := ⟨_, hown4, (hsees.put hown.isMap _ _).congr (FT_yes hb)⟩
        have hg4 := hg.trans (World.grownBy.trans (⟨rfl, rfl, rfl, Nat.le_refl _, fun _ _ _ => rfl⟩ : wr.grownBy wr.drew (some (w.heap.size + 1))) hgrow4)
        have HM4 : Hid (MapIs w4 (w.heap.size + 1) 2 (FT p (cn c0 c1 c2 c3) 2)) := hM4
        have HG4 : Hid (((w.alloc (.cells #[.int .i64 c0, .int .i64 c1, .int .i64 c2, .int .i64 c3] 22)).alloc (.map #[] 0)).grownBy w4 (some (w.heap.size + 1))) := hg4
        clear hM4 hg4 hown4 hgrow4 hown hsees
        go_wp2
        go_region_with (go_at_call 5; refine Calls.mono (key_any 1 _ (by omega) (by omega)) ?_; rintro r w1 ⟨rfl, rfl⟩)
        all_goals
          go_wp2
          go_roundw
          case rel => exact ⟨2, by omega, rfl, HM4.out, HG4.out⟩
          case measure => simp [intOf]
      | false =>
        as_aux_lemma =>
        have HM4 : Hid (MapIs wr (w.heap.size + 1) 2 (FT p (cn c0 c1 c2 c3) 2)) := (hM.mono (by omega)).congr (FT_no hb)
        clear hM
        go_wp2
        go_roundw
        case rel => exact ⟨2, by omega, rfl, HM4.out, hg⟩
        case measure => simp [intOf]
    · have hcl := hcc 2 _ rfl
      clear hcc
      cases hb : (bits BinOp.and IntKind.u8 p 4 != 0) with
      | true =>
        as_aux_lemma =>
        obtain ⟨D, hown, hsees⟩ := hM
        obtain ⟨w4, hrun, hown4, hgrow4⟩ := (hown.drew).update law Yba.underlying25 (by unfold maxLen; omega) (keyIs (s := keyS 2) (by decide)) (plainElem_int Yba.underlying3 (a := c2) W2.out)
        have hM4 : MapIs w4 (w.heap.size + 1) 3 (FT p (cn c0 c1 c2 c3) 3) := ⟨_, hown4, (hsees.put hown.isMap _ _).congr (FT_yes hb)⟩
        have hg4 := hg.trans (World.grownBy.trans (⟨rfl, rfl, rfl, Nat.le_refl _, fun _ _ _ => rfl⟩ : wr.grownBy wr.drew (some (w.heap.size + 1))) hgrow4)
        have HM4 : Hid (MapIs w4 (w.heap.size + 1) 3 (FT p (cn c0 c1 c2 c3) 3)) := hM4
        have HG4 : Hid (((w.alloc (.cells #[.int .i64 c0, .int .i64 c1, .int .i64 c2, .int .i64 c3] 22)).alloc (.map #[] 0)).grownBy w4 (some (w.heap.size + 1))) := hg4
        clear hM4 hg4 hown4 hgrow4 hown hsees
        go_wp2
        go_region_with (go_at_call 5; refine Calls.mono (key_any 2 _ (by omega) (by omega)) ?_; rintro r w1 ⟨rfl, rfl⟩)
        all_goals
          go_wp2
          go_roundw
          case rel => exact ⟨3, by omega, rfl, HM4.out, HG4.out⟩
          case measure => simp [intOf]
      | false =>
        as_aux_lemma =>
        have HM4 : Hid (MapIs wr (w.heap.size + 1) 3 (FT p (cn c0 c1 c2 c3) 3)) := (hM.mono (by omega)).congr (FT_no hb)
        clear hM
        go_wp2
        go_roundw
        case rel => exact ⟨3, by omega, rfl, HM4.out, hg⟩
        case measure => simp [intOf]
    · have hcl := hcc 3 _ rfl
      clear hcc
      cases hb : (bits BinOp.and IntKind.u8 p 8 != 0) with
      | true =>
        as_aux_lemma =>
        obtain ⟨D, hown, hsees⟩ := hM
        obtain ⟨w4, hrun, hown4, hgrow4⟩ := (hown.drew).update law Yba.underlying25 (by unfold maxLen; omega) (keyIs (s := keyS 3) (by decide)) (plainElem_int Yba.underlying3 (a := c3) W3.out)
        have hM4 : MapIs w4 (w.heap.size + 1) 4 (FT p (cn c0 c1 c2 c3) 4) := ⟨_, hown4, (hsees.put hown.isMap _ _).congr (FT_yes hb)⟩
        have hg4 := hg.trans (World.grownBy.trans (⟨rfl, rfl, rfl, Nat.le_refl _, fun _ _ _ => rfl⟩ : wr.grownBy wr.drew (some (w.heap.size + 1))) hgrow4)
        have HM4 : Hid (MapIs w4 (w.heap.size + 1) 4 (FT p (cn c0 c1 c2 c3) 4)) := hM4
        have HG4 : Hid (((w.alloc (.cells #[.int .i64 c0, .int .i64 c1, .int .i64 c2, .int .i64 c3] 22)).alloc (.map #[] 0)).grownBy w4 (some (w.heap.size + 1))) := hg4
        clear hM4 hg4 hown4 hgrow4 hown hsees
        go_wp2
        go_region_with (go_at_call 5; refine Calls.mono (key_any 3 _ (by omega) (by omega)) ?_; rintro r w1 ⟨rfl, rfl⟩)
        all_goals
          go_wp2
          go_roundw
          case rel => exact ⟨4, by omega, rfl, HM4.out, HG4.out⟩
          case measure => simp [intOf]
      | false =>
        as_aux_lemma =>
        have HM4 : Hid (MapIs wr (w.heap.size + 1) 4 (FT p (cn c0 c1 c2 c3) 4)) := (hM.mono (by omega)).congr (FT_no hb)
        clear hM
        go_wp2
        go_roundw
        case rel => exact ⟨4, by omega, rfl, HM4.out, hg⟩
        case measure => simp [intOf]
    · have HCC : Hid (∀ (j : Nat) v, (#[.int .i64 c0, .int .i64 c1, .int .i64 c2, .int .i64 c3] : Array Value)[j]? = some v → wr.cell? ⟨w.heap.size, j, none⟩ = some v) := hcc
      have hb0 : Below w.heap.size w wr := (((Below.refl _ _).alloc (Nat.le_refl _) _).alloc (by simp) _).grown hg (by simp; omega) (fun q hq => by cases hq; omega)
      have HB0 : Hid (Below w.heap.size w wr) := hb0
      have hszr : w.heap.size + 1 < wr.heap.size := hM.lt
      clear hcc hg hk hb0
      go_upto_if 56 with fail
      go_cut [19] (fun v wc => ∃ (ta : Option Addr) (tc : Nat), v = .slice ta ni tc ∧ ni ≤ tc ∧ Row wc ta (tagsOf idx) ∧ MapIs wc (w.heap.size + 1) 4 (FT p (cn c0 c1 c2 c3) 4) ∧
        (∀ (j : Nat) v, (#[.int .i64 c0, .int .i64 c1, .int .i64 c2, .int .i64 c3] : Array Value)[j]? = some v → wc.cell? ⟨w.heap.size, j, none⟩ = some v) ∧ Below w.heap.size w wc)
      case first =>
        as_aux_lemma =>
        cases ia with
        | none =>
          obtain ⟨e1, e2⟩ := Zi.out rfl
          have HT : Hid (tagsOf idx = []) := tagsOf_nil (by rw [Ei.out]; exact e1)
          subst e1 e2
          go_wp2
          go_meet
          exact ⟨none, 0, rfl, Nat.le_refl _, Or.inl HT.out, hM, HCC.out, HB0.out⟩
        | some a =>
          obtain ⟨i0, hi, hz0, hz1, hz2⟩ := info_parts info9
          have HT : Hid ((tagsOf idx).length = ni) := by rw [tagsOf_length]; exact Ei.out
          go_wp2_with (at_make; refine wpList_make_full _ rfl _ _ 28 rfl wr.heap.size 9 i0 (.string ByteArray.empty) 1 Yba.underlying28 hi hz0 hz1 _ _ _ _ ni rfl rfl rfl rfl (by rw [hz2]; omega) (by unfold maxLen; omega) (Nat.le_refl _) ?_)
          intro w5 hown5 hgrow5
          obtain ⟨k1, k2, k3⟩ := own_open hown5
          have hb5 : Below wr.heap.size wr w5 := ⟨hgrow5.os, hgrow5.tape, hgrow5.output, hgrow5.size, fun i hi => hgrow5.block i hi (by simp)⟩
          clear hown5 hgrow5
          generalize wr.heap.size = g at *
          have K1 : Hid (∀ j, j < ni → ∃ v, w5.cell? ⟨g, j, none⟩ = some v) := k1
          have K2 : Hid (∀ j, w5.frozen? ⟨g, j, none⟩ = false) := k2
          have HB5 : Hid (Below g wr w5) := hb5
          clear k1 k2 hb5
          go_wp2
          go_loopw [20] (fun i wq => ∃ k : Nat, k ≤ ni ∧ i = .int .i64 k ∧ (∀ j, j < ni → ∃ v, wq.cell? ⟨g, j, none⟩ = some v) ∧ (∀ j, wq.frozen? ⟨g, j, none⟩ = false) ∧ (∀ (j : Nat) (h : j < (tagsOf idx).length), j < k → wq.cell? ⟨g, j, none⟩ = some (.string (tagsOf idx)[j])) ∧ Below g w5 wq) (fun i _ => ni - (intOf i).toNat)
          case atStart => exact ⟨0, Nat.zero_le _, rfl, K1.out, K2.out, fun j _ h => absurd h (Nat.not_lt_zero _), Below.refl _ _⟩
          case round =>
            obtain ⟨k, hk, rfl, q1, q2, q3, hbq⟩ := hrel
            by_cases hlt : k < ni
            · have hli : k < idx.length := by rw [Ei.out]; exact hlt
              have hbt : Below w.heap.size w wr := HB0.out.trans ((HB5.out.trans hbq).mono (by omega))
              rcases Ri.below hbt with hnil | ⟨ib, io, ea, hcells⟩
              · rw [hnil] at hli; simp at hli
              · obtain rfl := Option.some.inj ea
                obtain ⟨hck, hx0, hx1⟩ := hcells k hli
                obtain ⟨v0, hv0⟩ := q1 k hlt
                have hfz := q2 k
                have HK : Hid ((tagsOf idx).length = ni ∧ ∀ h : k < (tagsOf idx).length, (tagsOf idx)[k] = keyS (idx[k] % 5).toNat) := ⟨HT.out, fun h => tagsOf_at idx k h⟩
                have Q1 : Hid (∀ j, j < ni → ∃ v, wr.cell? ⟨g, j, none⟩ = some v) := q1
                have Q2 : Hid (∀ j, wr.frozen? ⟨g, j, none⟩ = false) := q2
                have Q3 : Hid (∀ (j : Nat) (h : j < (tagsOf idx).length), j < k → wr.cell? ⟨g, j, none⟩ = some (.string (tagsOf idx)[j])) := q3
                have HBQ : Hid (Below g w5 wr) := hbq
                have hm0 : 0 ≤ idx[k] % 5 := Int.emod_nonneg _ (by omega)
                have hm1 : idx[k] % 5 ≤ 4 := by omega
                clear hcells q1 q2 q3 hbq hbt
                generalize idx[k] = x at *
                go_wp2_with fail
                refine Calls.mono (key_any (x % 5) _ hm0 hm1) ?_
                rintro r w6 ⟨rfl, rfl⟩
                go_wp2_with fail
                go_roundw
                case rel =>
                  refine ⟨k + 1, by omega, by go_num, fun j hj => ?_, fun j => ?_, fun j h hj => ?_, HBQ.out.setCell (Nat.le_refl _) _⟩
                  · obtain ⟨v, hv⟩ := Q1.out j hj
                    exact cell?_setCell_some hv
                  · rw [World.frozen?_setCell]; exact Q2.out j
                  · by_cases e : j = k
                    · subst e
                      rw [World.cell?_setCell_same _ _ _ hv0, HK.out.2 h]
                    · rw [World.cell?_setCell_other _ _ _ _ (by first | (simp; done) | (simp; omega))]
                      exact Q3.out j h (by omega)
                case measure => simp [intOf]; omega
            · have hbt : Below w.heap.size w wr := HB0.out.trans ((HB5.out.trans hbq).mono (by omega))
              have hMq : MapIs wr (w.heap.size + 1) 4 (FT p (cn c0 c1 c2 c3) 4) := hM.below (HB5.out.trans hbq) (by omega)
              have HQ : Hid (∀ (j : Nat) v, (#[.int .i64 c0, .int .i64 c1, .int .i64 c2, .int .i64 c3] : Array Value)[j]? = some v → wr.cell? ⟨w.heap.size, j, none⟩ = some v) := fun j v hv => ((HB5.out.trans hbq).cell (by show w.heap.size < g; omega)).trans (HCC.out j v hv)
              have HR : Hid (Row wr (some ⟨g, 0, none⟩) (tagsOf idx)) := Or.inr ⟨g, 0, rfl, fun j h => by rw [Nat.zero_add]; exact q3 j h (by have := HT.out; omega)⟩
              clear q1 q2 q3 hbq
              go_wp2
              go_meet
              exact ⟨some ⟨g, 0, none⟩, ni, rfl, Nat.le_refl _, HR.out, hMq, HQ.out, hbt⟩
      case rest =>
        obtain ⟨ta, tc, rfl, htc, hR, hM2, hC, hB⟩ := hcut
        have HC : Hid (∀ (j : Nat) v, (#[.int .i64 c0, .int .i64 c1, .int .i64 c2, .int .i64 c3] : Array Value)[j]? = some v → wc.cell? ⟨w.heap.size, j, none⟩ = some v) := hC
        have HB : Hid (Below w.heap.size w wc) := hB
        have HT : Hid ((tagsOf idx).length = ni) := by rw [tagsOf_length]; exact Ei.out
        have hszc : w.heap.size + 1 < wc.heap.size := hM2.lt
        clear hC hB hM HCC HB0 hszr Zi
        go_upto_if 77 with fail
        go_cut [21] (fun v wd => v = .int .i64 (aOf sameAt instN atN) ∧ wd = wc)
        case first =>
          cases sameAt
          all_goals
            go_wp2
            go_meet
            exact ⟨rfl, rfl⟩
        case rest =>
          obtain ⟨rfl, hwd⟩ := hcut
          subst hwd
          have ha : -9223372036854775808 ≤ aOf sameAt instN atN ∧ aOf sameAt instN atN ≤ 9223372036854775807 := by
            have := N.out
            unfold aOf; split
            · exact this.1
            · exact this.2
          have HA : Hid (-9223372036854775808 ≤ aOf sameAt instN atN ∧ aOf sameAt instN atN ≤ 9223372036854775807) := ha
          clear ha
          generalize aOf sameAt instN atN = a at *
          --DEV-NONE
          go_wp2_with fail
          refine Calls.mono (add_zero instN _ N.out.1.1 N.out.1.2) ?_
          rintro r w6 ⟨rfl, hb6⟩
          go_wp2_with fail
          refine Calls.mono (add_zero a _ HA.out.1 HA.out.2) ?_
          rintro r w7 ⟨rfl, hb7⟩
          have hb6' : Below wc.heap.size wc (w6.alloc (.cells #[.int .u64 (instN % 1000000000), .int .i64 (instN / 1000000000), .pointer none] 32)) := hb6.alloc hb6.size _
          have hB7 : Below wc.heap.size wc w7 := hb6'.trans (hb7.mono hb6'.size)
          have hiB : wc.heap.size ≤ w6.heap.size := hb6.size
          have hiB2 : w6.heap.size + 1 ≤ w7.heap.size := by have := hb7.size; simpa using this
          have hins : ∀ j v, (#[.int .u64 (instN % 1000000000), .int .i64 (instN / 1000000000), .pointer none] : Array Value)[j]? = some v → w7.cell? ⟨w6.heap.size, j, none⟩ = some v := by
            intro j v hv
            rw [hb7.cell (by simp), cell_of_row _ w6.heap.size j _ _ _ (heap_alloc_new w6 _)]
            exact hv
          have i0 := hins 0 _ rfl
          have i1 := hins 1 _ rfl
          have i2 := hins 2 _ rfl
          have q0 : 0 ≤ instN % 1000000000 := Int.emod_nonneg _ (by omega)
          have q1 : instN % 1000000000 < 1000000000 := Int.emod_lt_of_pos _ (by omega)
          have q2 : 0 ≤ a % 1000000000 := Int.emod_nonneg _ (by omega)
          have q3 : a % 1000000000 < 1000000000 := Int.emod_lt_of_pos _ (by omega)
          have HS : Hid (sameT (a % 1000000000) (a / 1000000000) (instN % 1000000000) (instN / 1000000000) = (a == instN)) := same_time a instN
          have HB7 : Hid (Below wc.heap.size wc w7) := hB7
          have hl6 : w6.heap.size < w7.heap.size := by omega
          have hib : w.heap.size + 1 < w6.heap.size := by omega
          clear hb6 hb7 hb6' hins hB7 hiB hiB2 N HA
          generalize w6.heap.size = ib at *
          generalize instN % 1000000000 = iw at *
          generalize instN / 1000000000 = ie at *
          generalize a % 1000000000 = aw at *
          generalize a / 1000000000 = ae at *
          go_wp2_with fail
          refine Calls.mono (uncount_any (w7.heap.size + 1 + 1) (w7.heap.size + 1) (w.heap.size + 1) counted arriving iw ie aw ae ta (tagsOf idx) tc 4 (FT p (cn c0 c1 c2 c3) 4) _ q0 q1 q2 q3 ?_ (by omega) (by rw [HT.out]; omega) (by rw [HT.out]; omega) (tagsOf_size idx) ?_ ?_ ?_) ?_
          · exact ⟨by go_simp, by go_simp, by go_simp, by go_simp, by go_simp, by go_simp⟩
          · rw [HT.out]; go_simp
          · exact hR.below (((HB7.out.alloc HB7.out.size _).alloc (Nat.le_trans HB7.out.size (by simp)) _).alloc (Nat.le_trans HB7.out.size (by simp; omega)) _)
          · exact hM2.below (((HB7.out.alloc HB7.out.size _).alloc (Nat.le_trans HB7.out.size (by simp)) _).alloc (Nat.le_trans HB7.out.size (by simp; omega)) _) hM2.lt
          rintro r w9 ⟨rfl, hM9, hg9⟩
          have hwc : wc.heap.size ≤ w7.heap.size := HB7.out.size
          have hb9 : Below w.heap.size w w9 := ((((HB.out.trans (HB7.out.mono (by omega))).alloc (by omega) _).alloc (by simp; omega) _).alloc (by simp; omega) _).grown hg9 (by simp; omega) (fun q hq => by cases hq; omega)
          have hz0 : w9.cell? ⟨w7.heap.size + 1 + 1, 0, none⟩ = some (.slice none 0 0) := hg9.cell (by go_simp) (by simp; omega)
          have hz1 : w9.cell? ⟨w7.heap.size + 1 + 1, 1, none⟩ = some (.bool counted) := hg9.cell (by go_simp) (by simp; omega)
          have hz2 : w9.cell? ⟨w7.heap.size + 1 + 1, 2, none⟩ = some (.int .u64 iw) := hg9.cell (by go_simp) (by simp; omega)
          have hz3 : w9.cell? ⟨w7.heap.size + 1 + 1, 3, none⟩ = some (.int .i64 ie) := hg9.cell (by go_simp) (by simp; omega)
          have hz4 : w9.cell? ⟨w7.heap.size + 1 + 1, 4, none⟩ = some (.pointer none) := hg9.cell (by go_simp) (by simp; omega)
          have hz5 : w9.cell? ⟨w7.heap.size + 1 + 1, 5, none⟩ = some (.map (some (w.heap.size + 1))) := hg9.cell (by go_simp) (by simp; omega)
          have hz6 : w9.cell? ⟨w7.heap.size + 1 + 1, 6, none⟩ = some (.bool false) := hg9.cell (by go_simp) (by simp; omega)
          have he5 : w9.cell? ⟨w7.heap.size + 1, 5, none⟩ = some (.int .i64 (-1)) := hg9.cell (by go_simp) (by simp; omega)
          have he6 : w9.cell? ⟨w7.heap.size + 1, 6, none⟩ = some (.slice ta ni tc) := hg9.cell (by go_simp) (by simp; omega)
          have he7 : w9.cell? ⟨w7.heap.size + 1, 7, none⟩ = some (.bool arriving) := hg9.cell (by go_simp) (by simp; omega)
          have hs7 : w7.heap.size + 1 + 1 + 1 ≤ w9.heap.size := by have := hg9.size; simpa using this
          have hl7 : ib < w7.heap.size + 1 := by omega
          have hl8 : ib < w7.heap.size + 1 + 1 := by omega
          have j0 : w9.cell? ⟨ib, 0, none⟩ = some (.int .u64 iw) := hg9.cell (by go_simp) (by simp; omega)
          have j1 : w9.cell? ⟨ib, 1, none⟩ = some (.int .i64 ie) := hg9.cell (by go_simp) (by simp; omega)
          have j2 : w9.cell? ⟨ib, 2, none⟩ = some (.pointer none) := hg9.cell (by go_simp) (by simp; omega)
          have HR9 : Hid (Row w9 ta (tagsOf idx)) := Row.grown (hR.below (((HB7.out.alloc HB7.out.size _).alloc (Nat.le_trans HB7.out.size (by simp)) _).alloc (Nat.le_trans HB7.out.size (by simp; omega)) _)) (hM2.below (((HB7.out.alloc HB7.out.size _).alloc (Nat.le_trans HB7.out.size (by simp)) _).alloc (Nat.le_trans HB7.out.size (by simp; omega)) _) hM2.lt) hg9
          have HC9 : Hid (∀ (j : Nat) v, (#[.int .i64 c0, .int .i64 c1, .int .i64 c2, .int .i64 c3] : Array Value)[j]? = some v → w9.cell? ⟨w.heap.size, j, none⟩ = some v) := fun j v hv => hg9.cell ((Below.cell (((HB7.out.alloc HB7.out.size _).alloc (Nat.le_trans HB7.out.size (by simp)) _).alloc (Nat.le_trans HB7.out.size (by simp; omega)) _) (by show w.heap.size < wc.heap.size; omega)).trans (HC.out j v hv)) (by simp)
          have hM10 : MapIs w9 (w.heap.size + 1) (4 + (tagsOf idx).length) (fin p (cn c0 c1 c2 c3) (actB counted arriving (a == instN)) (tagsOf idx)) := by
            rw [HS.out] at hM9
            exact hM9
          have HI9 : Hid (RowU w9 ia idx) := Ri.below hb9
          have HB9 : Hid (Below w.heap.size w w9) := hb9
          clear hM9 hg9 hb9 HC HB7 hM2 hR HB HS hwc i0 i1 i2 q2 q3 hl6 hl7 hl8 hszc hib
          obtain ⟨D, hown, hsees⟩ := hM10
          have HZ : Hid (Maps.size D = cntTo p (cn c0 c1 c2 c3) (actB counted arriving (a == instN)) (tagsOf idx) 4) := fin_size _ _ _ _ hsees (hown.canon law)
          have HH : Hid (∀ i, i < 4 → Maps.has D (.string (keyS i).data.toList) = (resOf p (cn c0 c1 c2 c3) (actB counted arriving (a == instN)) (tagsOf idx) i).isSome ∧ ∀ z, D.atKey (.string (keyS i).data.toList) z = val (resOf p (cn c0 c1 c2 c3) (actB counted arriving (a == instN)) (tagsOf idx) i) z) := fun i hi => ⟨by
            have := hsees.has (ks i)
            rw [fin_at _ _ _ _ i hi] at this
            exact this, fun z => by
            have := hsees.1 (ks i) z
            rw [fin_at _ _ _ _ i hi] at this
            exact this⟩
          clear hsees
          generalize w7.heap.size + 1 + 1 = qb at *
          generalize w7.heap.size + 1 = eb at *
          go_upto_region 24 with fail
          go_cut [26] (fun v wd => v = .bool (actB counted arriving (a == instN)) ∧ wd = w9)
          case first =>
            cases counted <;> cases arriving
            all_goals
              go_wp2
              go_meet
              exact ⟨rfl, rfl⟩
          case rest =>
            obtain ⟨rfl, hwd⟩ := hcut
            subst hwd
            generalize actB counted arriving (a == instN) = act at *
            go_wp2
            go_loop [27, 28] (fun n i => ∃ k : Nat, k ≤ 4 ∧ i = .int .i64 k ∧ n = .int .i64 (cntTo p (cn c0 c1 c2 c3) act (tagsOf idx) k : Nat)) (fun _ i => 4 - (intOf i).toNat)
            case atStart => exact ⟨0, Nat.zero_le _, rfl, rfl⟩
            case round =>
              obtain ⟨k, hk, rfl, rfl⟩ := hrel
              have hcle := cntTo_le p (cn c0 c1 c2 c3) act (tagsOf idx) k
              rcases (show k = 0 ∨ k = 1 ∨ k = 2 ∨ k = 3 ∨ k = 4 from by omega) with rfl | rfl | rfl | rfl | rfl
              · have hcl := HC9.out 0 _ rfl
                have R9 := HR9.out
                cases hb : (bits BinOp.and IntKind.u8 p 1 != 0) with
                | false =>
                  have HA4 : Hid (at4 p (cn c0 c1 c2 c3) 0 = none) := at4_no hb
                  cases act with
                  | false =>
                    as_aux_lemma =>
                    have hres : resOf p (cn c0 c1 c2 c3) false (tagsOf idx) 0 = none := (res_no rfl).trans HA4.out
                    have hhas : Maps.has D (.string (keyS 0).data.toList) = false := by rw [(HH.out 0 (by omega)).1, hres]; rfl
                    have HN : Hid (cntTo p (cn c0 c1 c2 c3) false (tagsOf idx) 1 = cntTo p (cn c0 c1 c2 c3) false (tagsOf idx) 0) := by rw [cntTo_succ, hres]; rfl
                    clear hres
                    go_wp2_with fail
                    refine Calls.mono (key_any 0 _ (by omega) (by omega)) ?_
                    rintro r w11 ⟨rfl, rfl⟩
                    go_wp2_with (at_lookup; refine wpList_lookup_own_ok_int _ rfl (.tmp 140) (.tmp 141) 25 rfl 9 3 .i64 law Yba.underlying25 Yba.underlying3 (zeroE _) (w.heap.size + 1) (4 + (tagsOf idx).length) D rfl hown _ _ rfl (keyIs (keyS_size 0)) ?_)
                    intro c hat hwc
                    clear hat hwc
                    go_wp2_with fail
                    go_round
                    case rel => exact ⟨1, by omega, rfl, by rw [HN.out]⟩
                    case measure => simp [intOf]
                  | true =>
                    cases hh : hasB (tagsOf idx) (keyS 0) with
                    | false =>
                      as_aux_lemma =>
                      have hres : resOf p (cn c0 c1 c2 c3) true (tagsOf idx) 0 = none := (res_no (by rw [hh]; rfl)).trans HA4.out
                      have hhas : Maps.has D (.string (keyS 0).data.toList) = false := by rw [(HH.out 0 (by omega)).1, hres]; rfl
                      have HN : Hid (cntTo p (cn c0 c1 c2 c3) true (tagsOf idx) 1 = cntTo p (cn c0 c1 c2 c3) true (tagsOf idx) 0) := by rw [cntTo_succ, hres]; rfl
                      clear hres
                      go_wp2_with fail
                      refine Calls.mono (key_any 0 _ (by omega) (by omega)) ?_
                      rintro r w11 ⟨rfl, rfl⟩
                      go_wp2_with fail
                      refine Calls.mono (in_at ta (tagsOf idx) ni tc (keyS 0) _ HT.out (by omega) R9) ?_
                      rintro r w12 ⟨rfl, rfl⟩
                      rw [hh]
                      go_wp2_with (at_lookup; refine wpList_lookup_own_ok_int _ rfl (.tmp 140) (.tmp 141) 25 rfl 9 3 .i64 law Yba.underlying25 Yba.underlying3 (zeroE _) (w.heap.size + 1) (4 + (tagsOf idx).length) D rfl hown _ _ rfl (keyIs (keyS_size 0)) ?_)
                      intro c hat hwc
                      clear hat hwc
                      go_wp2_with fail
                      go_round
                      case rel => exact ⟨1, by omega, rfl, by rw [HN.out]⟩
                      case measure => simp [intOf]
                    | true =>
                      as_aux_lemma =>
                      have hres : resOf p (cn c0 c1 c2 c3) true (tagsOf idx) 0 = none := (res_hit (by rw [hh]; rfl)).trans (by rw [HA4.out]; rfl)
                      have hhas : Maps.has D (.string (keyS 0).data.toList) = false := by rw [(HH.out 0 (by omega)).1, hres]; rfl
                      have HN : Hid (cntTo p (cn c0 c1 c2 c3) true (tagsOf idx) 1 = cntTo p (cn c0 c1 c2 c3) true (tagsOf idx) 0) := by rw [cntTo_succ, hres]; rfl
                      clear hres
                      go_wp2_with fail
                      refine Calls.mono (key_any 0 _ (by omega) (by omega)) ?_
                      rintro r w11 ⟨rfl, rfl⟩
                      go_wp2_with fail
                      refine Calls.mono (in_at ta (tagsOf idx) ni tc (keyS 0) _ HT.out (by omega) R9) ?_
                      rintro r w12 ⟨rfl, rfl⟩
                      rw [hh]
                      go_wp2_with (at_lookup; refine wpList_lookup_own_ok_int _ rfl (.tmp 140) (.tmp 141) 25 rfl 9 3 .i64 law Yba.underlying25 Yba.underlying3 (zeroE _) (w.heap.size + 1) (4 + (tagsOf idx).length) D rfl hown _ _ rfl (keyIs (keyS_size 0)) ?_)
                      intro c hat hwc
                      clear hat hwc
                      go_wp2_with fail
                      go_round
                      case rel => exact ⟨1, by omega, rfl, by rw [HN.out]⟩
                      case measure => simp [intOf]
                | true =>
                  have HA4 : Hid (at4 p (cn c0 c1 c2 c3) 0 = some c0) := at4_yes hb
                  cases act with
                  | false =>
                    as_aux_lemma =>
                    have hres : resOf p (cn c0 c1 c2 c3) false (tagsOf idx) 0 = some (c0) := (res_no rfl).trans HA4.out
                    have hhas : Maps.has D (.string (keyS 0).data.toList) = true := by rw [(HH.out 0 (by omega)).1, hres]; rfl
                    have HV : Hid (∀ z, D.atKey (.string (keyS 0).data.toList) z = val (some (c0)) z) := fun z => by rw [(HH.out 0 (by omega)).2, hres]
                    have HN : Hid (cntTo p (cn c0 c1 c2 c3) false (tagsOf idx) 1 = cntTo p (cn c0 c1 c2 c3) false (tagsOf idx) 0 + 1) := by rw [cntTo_succ, hres]; rfl
                    clear hres
                    go_wp2_with fail
                    refine Calls.mono (key_any 0 _ (by omega) (by omega)) ?_
                    rintro r w11 ⟨rfl, rfl⟩
                    go_wp2_with (at_lookup; refine wpList_lookup_own_ok_int _ rfl (.tmp 140) (.tmp 141) 25 rfl 9 3 .i64 law Yba.underlying25 Yba.underlying3 (zeroE _) (w.heap.size + 1) (4 + (tagsOf idx).length) D rfl hown _ _ rfl (keyIs (keyS_size 0)) ?_)
                    intro c hat hwc
                    obtain rfl : c = c0 := val_some (hat.symm.trans (HV.out _))
                    clear hat hwc
                    go_wp2_with fail
                    go_round
                    case rel => exact ⟨1, by omega, rfl, by rw [HN.out]; first | rfl | go_num⟩
                    case measure => simp [intOf]
                  | true =>
                    cases hh : hasB (tagsOf idx) (keyS 0) with
                    | false =>
                      as_aux_lemma =>
                      have hres : resOf p (cn c0 c1 c2 c3) true (tagsOf idx) 0 = some (c0) := (res_no (by rw [hh]; rfl)).trans HA4.out
                      have hhas : Maps.has D (.string (keyS 0).data.toList) = true := by rw [(HH.out 0 (by omega)).1, hres]; rfl
                      have HV : Hid (∀ z, D.atKey (.string (keyS 0).data.toList) z = val (some (c0)) z) := fun z => by rw [(HH.out 0 (by omega)).2, hres]
                      have HN : Hid (cntTo p (cn c0 c1 c2 c3) true (tagsOf idx) 1 = cntTo p (cn c0 c1 c2 c3) true (tagsOf idx) 0 + 1) := by rw [cntTo_succ, hres]; rfl
                      clear hres
                      go_wp2_with fail
                      refine Calls.mono (key_any 0 _ (by omega) (by omega)) ?_
                      rintro r w11 ⟨rfl, rfl⟩
                      go_wp2_with fail
                      refine Calls.mono (in_at ta (tagsOf idx) ni tc (keyS 0) _ HT.out (by omega) R9) ?_
                      rintro r w12 ⟨rfl, rfl⟩
                      rw [hh]
                      go_wp2_with (at_lookup; refine wpList_lookup_own_ok_int _ rfl (.tmp 140) (.tmp 141) 25 rfl 9 3 .i64 law Yba.underlying25 Yba.underlying3 (zeroE _) (w.heap.size + 1) (4 + (tagsOf idx).length) D rfl hown _ _ rfl (keyIs (keyS_size 0)) ?_)
                      intro c hat hwc
                      obtain rfl : c = c0 := val_some (hat.symm.trans (HV.out _))
                      clear hat hwc
                      go_wp2_with fail
                      go_round
                      case rel => exact ⟨1, by omega, rfl, by rw [HN.out]; first | rfl | go_num⟩
                      case measure => simp [intOf]
                    | true =>
                      by_cases hgt : 1 < c0
                      · have hbd := bounds_i64 W0.out
                        as_aux_lemma =>
                        have hres : resOf p (cn c0 c1 c2 c3) true (tagsOf idx) 0 = some (c0 - 1) := (res_hit (by rw [hh]; rfl)).trans (by rw [HA4.out]; exact dec1_more (o := some c0) rfl hgt)
                        have hhas : Maps.has D (.string (keyS 0).data.toList) = true := by rw [(HH.out 0 (by omega)).1, hres]; rfl
                        have HV : Hid (∀ z, D.atKey (.string (keyS 0).data.toList) z = val (some (c0 - 1)) z) := fun z => by rw [(HH.out 0 (by omega)).2, hres]
                        have HN : Hid (cntTo p (cn c0 c1 c2 c3) true (tagsOf idx) 1 = cntTo p (cn c0 c1 c2 c3) true (tagsOf idx) 0 + 1) := by rw [cntTo_succ, hres]; rfl
                        clear hres
                        go_wp2_with fail
                        refine Calls.mono (key_any 0 _ (by omega) (by omega)) ?_
                        rintro r w11 ⟨rfl, rfl⟩
                        go_wp2_with fail
                        refine Calls.mono (in_at ta (tagsOf idx) ni tc (keyS 0) _ HT.out (by omega) R9) ?_
                        rintro r w12 ⟨rfl, rfl⟩
                        rw [hh]
                        go_wp2_with (at_lookup; refine wpList_lookup_own_ok_int _ rfl (.tmp 140) (.tmp 141) 25 rfl 9 3 .i64 law Yba.underlying25 Yba.underlying3 (zeroE _) (w.heap.size + 1) (4 + (tagsOf idx).length) D rfl hown _ _ rfl (keyIs (keyS_size 0)) ?_)
                        intro c hat hwc
                        obtain rfl : c = c0 - 1 := val_some (hat.symm.trans (HV.out _))
                        clear hat hwc
                        go_wp2_with fail
                        go_round
                        case rel => exact ⟨1, by omega, rfl, by rw [HN.out]; first | rfl | go_num⟩
                        case measure => simp [intOf]
                      · as_aux_lemma =>
                        have hres : resOf p (cn c0 c1 c2 c3) true (tagsOf idx) 0 = none := (res_hit (by rw [hh]; rfl)).trans (by rw [HA4.out]; exact dec1_less (o := some c0) rfl hgt)
                        have hhas : Maps.has D (.string (keyS 0).data.toList) = false := by rw [(HH.out 0 (by omega)).1, hres]; rfl
                        have HN : Hid (cntTo p (cn c0 c1 c2 c3) true (tagsOf idx) 1 = cntTo p (cn c0 c1 c2 c3) true (tagsOf idx) 0) := by rw [cntTo_succ, hres]; rfl
                        clear hres
                        go_wp2_with fail
                        refine Calls.mono (key_any 0 _ (by omega) (by omega)) ?_
                        rintro r w11 ⟨rfl, rfl⟩
                        go_wp2_with fail
                        refine Calls.mono (in_at ta (tagsOf idx) ni tc (keyS 0) _ HT.out (by omega) R9) ?_
                        rintro r w12 ⟨rfl, rfl⟩
                        rw [hh]
                        go_wp2_with (at_lookup; refine wpList_lookup_own_ok_int _ rfl (.tmp 140) (.tmp 141) 25 rfl 9 3 .i64 law Yba.underlying25 Yba.underlying3 (zeroE _) (w.heap.size + 1) (4 + (tagsOf idx).length) D rfl hown _ _ rfl (keyIs (keyS_size 0)) ?_)
                        intro c hat hwc
                        clear hat hwc
                        go_wp2_with fail
                        go_round
                        case rel => exact ⟨1, by omega, rfl, by rw [HN.out]⟩
                        case measure => simp [intOf]
              · have hcl := HC9.out 1 _ rfl
                have R9 := HR9.out
                cases hb : (bits BinOp.and IntKind.u8 p 2 != 0) with
                | false =>
                  have HA4 : Hid (at4 p (cn c0 c1 c2 c3) 1 = none) := at4_no hb
                  cases act with
                  | false =>
                    as_aux_lemma =>
                    have hres : resOf p (cn c0 c1 c2 c3) false (tagsOf idx) 1 = none := (res_no rfl).trans HA4.out
                    have hhas : Maps.has D (.string (keyS 1).data.toList) = false := by rw [(HH.out 1 (by omega)).1, hres]; rfl
                    have HN : Hid (cntTo p (cn c0 c1 c2 c3) false (tagsOf idx) 2 = cntTo p (cn c0 c1 c2 c3) false (tagsOf idx) 1) := by rw [cntTo_succ, hres]; rfl
                    clear hres
                    go_wp2_with fail
                    refine Calls.mono (key_any 1 _ (by omega) (by omega)) ?_
                    rintro r w11 ⟨rfl, rfl⟩
                    go_wp2_with (at_lookup; refine wpList_lookup_own_ok_int _ rfl (.tmp 140) (.tmp 141) 25 rfl 9 3 .i64 law Yba.underlying25 Yba.underlying3 (zeroE _) (w.heap.size + 1) (4 + (tagsOf idx).length) D rfl hown _ _ rfl (keyIs (keyS_size 1)) ?_)
                    intro c hat hwc
                    clear hat hwc
                    go_wp2_with fail
                    go_round
                    case rel => exact ⟨2, by omega, rfl, by rw [HN.out]⟩
                    case measure => simp [intOf]
                  | true =>
                    cases hh : hasB (tagsOf idx) (keyS 1) with
                    | false =>
                      as_aux_lemma =>
                      have hres : resOf p (cn c0 c1 c2 c3) true (tagsOf idx) 1 = none := (res_no (by rw [hh]; rfl)).trans HA4.out
                      have hhas : Maps.has D (.string (keyS 1).data.toList) = false := by rw [(HH.out 1 (by omega)).1, hres]; rfl
                      have HN : Hid (cntTo p (cn c0 c1 c2 c3) true (tagsOf idx) 2 = cntTo p (cn c0 c1 c2 c3) true (tagsOf idx) 1) := by rw [cntTo_succ, hres]; rfl
                      clear hres
                      go_wp2_with fail
                      refine Calls.mono (key_any 1 _ (by omega) (by omega)) ?_
                      rintro r w11 ⟨rfl, rfl⟩
                      go_wp2_with fail
                      refine Calls.mono (in_at ta (tagsOf idx) ni tc (keyS 1) _ HT.out (by omega) R9) ?_
                      rintro r w12 ⟨rfl, rfl⟩
                      rw [hh]
                      go_wp2_with (at_lookup; refine wpList_lookup_own_ok_int _ rfl (.tmp 140) (.tmp 141) 25 rfl 9 3 .i64 law Yba.underlying25 Yba.underlying3 (zeroE _) (w.heap.size + 1) (4 + (tagsOf idx).length) D rfl hown _ _ rfl (keyIs (keyS_size 1)) ?_)
                      intro c hat hwc
                      clear hat hwc
                      go_wp2_with fail
                      go_round
                      case rel => exact ⟨2, by omega, rfl, by rw [HN.out]⟩
                      case measure => simp [intOf]
                    | true =>
                      as_aux_lemma =>
                      have hres : resOf p (cn c0 c1 c2 c3) true (tagsOf idx) 1 = none := (res_hit (by rw [hh]; rfl)).trans (by rw [HA4.out]; rfl)
                      have hhas : Maps.has D (.string (keyS 1).data.toList) = false := by rw [(HH.out 1 (by omega)).1, hres]; rfl
                      have HN : Hid (cntTo p (cn c0 c1 c2 c3) true (tagsOf idx) 2 = cntTo p (cn c0 c1 c2 c3) true (tagsOf idx) 1) := by rw [cntTo_succ, hres]; rfl
                      clear hres
                      go_wp2_with fail
                      refine Calls.mono (key_any 1 _ (by omega) (by omega)) ?_
                      rintro r w11 ⟨rfl, rfl⟩
                      go_wp2_with fail
                      refine Calls.mono (in_at ta (tagsOf idx) ni tc (keyS 1) _ HT.out (by omega) R9) ?_
                      rintro r w12 ⟨rfl, rfl⟩
                      rw [hh]
                      go_wp2_with (at_lookup; refine wpList_lookup_own_ok_int _ rfl (.tmp 140) (.tmp 141) 25 rfl 9 3 .i64 law Yba.underlying25 Yba.underlying3 (zeroE _) (w.heap.size + 1) (4 + (tagsOf idx).length) D rfl hown _ _ rfl (keyIs (keyS_size 1)) ?_)
                      intro c hat hwc
                      clear hat hwc
                      go_wp2_with fail
                      go_round
                      case rel => exact ⟨2, by omega, rfl, by rw [HN.out]⟩
                      case measure => simp [intOf]
                | true =>
                  have HA4 : Hid (at4 p (cn c0 c1 c2 c3) 1 = some c1) := at4_yes hb
                  cases act with
                  | false =>
                    as_aux_lemma =>
                    have hres : resOf p (cn c0 c1 c2 c3) false (tagsOf idx) 1 = some (c1) := (res_no rfl).trans HA4.out
                    have hhas : Maps.has D (.string (keyS 1).data.toList) = true := by rw [(HH.out 1 (by omega)).1, hres]; rfl
                    have HV : Hid (∀ z, D.atKey (.string (keyS 1).data.toList) z = val (some (c1)) z) := fun z => by rw [(HH.out 1 (by omega)).2, hres]
                    have HN : Hid (cntTo p (cn c0 c1 c2 c3) false (tagsOf idx) 2 = cntTo p (cn c0 c1 c2 c3) false (tagsOf idx) 1 + 1) := by rw [cntTo_succ, hres]; rfl
                    clear hres
                    go_wp2_with fail
                    refine Calls.mono (key_any 1 _ (by omega) (by omega)) ?_
                    rintro r w11 ⟨rfl, rfl⟩
                    go_wp2_with (at_lookup; refine wpList_lookup_own_ok_int _ rfl (.tmp 140) (.tmp 141) 25 rfl 9 3 .i64 law Yba.underlying25 Yba.underlying3 (zeroE _) (w.heap.size + 1) (4 + (tagsOf idx).length) D rfl hown _ _ rfl (keyIs (keyS_size 1)) ?_)
                    intro c hat hwc
                    obtain rfl : c = c1 := val_some (hat.symm.trans (HV.out _))
                    clear hat hwc
                    go_wp2_with fail
                    go_round
                    case rel => exact ⟨2, by omega, rfl, by rw [HN.out]; first | rfl | go_num⟩
                    case measure => simp [intOf]
                  | true =>
                    cases hh : hasB (tagsOf idx) (keyS 1) with
                    | false =>
                      as_aux_lemma =>
                      have hres : resOf p (cn c0 c1 c2 c3) true (tagsOf idx) 1 = some (c1) := (res_no (by rw [hh]; rfl)).trans HA4.out
                      have hhas : Maps.has D (.string (keyS 1).data.toList) = true := by rw [(HH.out 1 (by omega)).1, hres]; rfl
                      have HV : Hid (∀ z, D.atKey (.string (keyS 1).data.toList) z = val (some (c1)) z) := fun z => by rw [(HH.out 1 (by omega)).2, hres]
                      have HN : Hid (cntTo p (cn c0 c1 c2 c3) true (tagsOf idx) 2 = cntTo p (cn c0 c1 c2 c3) true (tagsOf idx) 1 + 1) := by rw [cntTo_succ, hres]; rfl
                      clear hres
                      go_wp2_with fail
                      refine Calls.mono (key_any 1 _ (by omega) (by omega)) ?_
                      rintro r w11 ⟨rfl, rfl⟩
                      go_wp2_with fail
                      refine Calls.mono (in_at ta (tagsOf idx) ni tc (keyS 1) _ HT.out (by omega) R9) ?_
                      rintro r w12 ⟨rfl, rfl⟩
                      rw [hh]
                      go_wp2_with (at_lookup; refine wpList_lookup_own_ok_int _ rfl (.tmp 140) (.tmp 141) 25 rfl 9 3 .i64 law Yba.underlying25 Yba.underlying3 (zeroE _) (w.heap.size + 1) (4 + (tagsOf idx).length) D rfl hown _ _ rfl (keyIs (keyS_size 1)) ?_)
                      intro c hat hwc
                      obtain rfl : c = c1 := val_some (hat.symm.trans (HV.out _))
                      clear hat hwc
                      go_wp2_with fail
                      go_round
                      case rel => exact ⟨2, by omega, rfl, by rw [HN.out]; first | rfl | go_num⟩
                      case measure => simp [intOf]
                    | true =>
                      by_cases hgt : 1 < c1
                      · have hbd := bounds_i64 W1.out
                        as_aux_lemma =>
                        have hres : resOf p (cn c0 c1 c2 c3) true (tagsOf idx) 1 = some (c1 - 1) := (res_hit (by rw [hh]; rfl)).trans (by rw [HA4.out]; exact dec1_more (o := some c1) rfl hgt)
                        have hhas : Maps.has D (.string (keyS 1).data.toList) = true := by rw [(HH.out 1 (by omega)).1, hres]; rfl
                        have HV : Hid (∀ z, D.atKey (.string (keyS 1).data.toList) z = val (some (c1 - 1)) z) := fun z => by rw [(HH.out 1 (by omega)).2, hres]
                        have HN : Hid (cntTo p (cn c0 c1 c2 c3) true (tagsOf idx) 2 = cntTo p (cn c0 c1 c2 c3) true (tagsOf idx) 1 + 1) := by rw [cntTo_succ, hres]; rfl
                        clear hres
                        go_wp2_with fail
                        refine Calls.mono (key_any 1 _ (by omega) (by omega)) ?_
                        rintro r w11 ⟨rfl, rfl⟩
                        go_wp2_with fail
                        refine Calls.mono (in_at ta (tagsOf idx) ni tc (keyS 1) _ HT.out (by omega) R9) ?_
                        rintro r w12 ⟨rfl, rfl⟩
                        rw [hh]
                        go_wp2_with (at_lookup; refine wpList_lookup_own_ok_int _ rfl (.tmp 140) (.tmp 141) 25 rfl 9 3 .i64 law Yba.underlying25 Yba.underlying3 (zeroE _) (w.heap.size + 1) (4 + (tagsOf idx).length) D rfl hown _ _ rfl (keyIs (keyS_size 1)) ?_)
                        intro c hat hwc
                        obtain rfl : c = c1 - 1 := val_some (hat.symm.trans (HV.out _))
                        clear hat hwc
                        go_wp2_with fail
                        go_round
                        case rel => exact ⟨2, by omega, rfl, by rw [HN.out]; first | rfl | go_num⟩
                        case measure => simp [intOf]
                      · as_aux_lemma =>
                        have hres : resOf p (cn c0 c1 c2 c3) true (tagsOf idx) 1 = none := (res_hit (by rw [hh]; rfl)).trans (by rw [HA4.out]; exact dec1_less (o := some c1) rfl hgt)
                        have hhas : Maps.has D (.string (keyS 1).data.toList) = false := by rw [(HH.out 1 (by omega)).1, hres]; rfl
                        have HN : Hid (cntTo p (cn c0 c1 c2 c3) true (tagsOf idx) 2 = cntTo p (cn c0 c1 c2 c3) true (tagsOf idx) 1) := by rw [cntTo_succ, hres]; rfl
                        clear hres
                        go_wp2_with fail
                        refine Calls.mono (key_any 1 _ (by omega) (by omega)) ?_
                        rintro r w11 ⟨rfl, rfl⟩
                        go_wp2_with fail
                        refine Calls.mono (in_at ta (tagsOf idx) ni tc (keyS 1) _ HT.out (by omega) R9) ?_
                        rintro r w12 ⟨rfl, rfl⟩
                        rw [hh]
                        go_wp2_with (at_lookup; refine wpList_lookup_own_ok_int _ rfl (.tmp 140) (.tmp 141) 25 rfl 9 3 .i64 law Yba.underlying25 Yba.underlying3 (zeroE _) (w.heap.size + 1) (4 + (tagsOf idx).length) D rfl hown _ _ rfl (keyIs (keyS_size 1)) ?_)
                        intro c hat hwc
                        clear hat hwc
                        go_wp2_with fail
                        go_round
                        case rel => exact ⟨2, by omega, rfl, by rw [HN.out]⟩
                        case measure => simp [intOf]
              · have hcl := HC9.out 2 _ rfl
                have R9 := HR9.out
                cases hb : (bits BinOp.and IntKind.u8 p 4 != 0) with
                | false =>
                  have HA4 : Hid (at4 p (cn c0 c1 c2 c3) 2 = none) := at4_no hb
                  cases act with
                  | false =>
                    as_aux_lemma =>
                    have hres : resOf p (cn c0 c1 c2 c3) false (tagsOf idx) 2 = none := (res_no rfl).trans HA4.out
                    have hhas : Maps.has D (.string (keyS 2).data.toList) = false := by rw [(HH.out 2 (by omega)).1, hres]; rfl
                    have HN : Hid (cntTo p (cn c0 c1 c2 c3) false (tagsOf idx) 3 = cntTo p (cn c0 c1 c2 c3) false (tagsOf idx) 2) := by rw [cntTo_succ, hres]; rfl
                    clear hres
                    go_wp2_with fail
                    refine Calls.mono (key_any 2 _ (by omega) (by omega)) ?_
                    rintro r w11 ⟨rfl, rfl⟩
                    go_wp2_with (at_lookup; refine wpList_lookup_own_ok_int _ rfl (.tmp 140) (.tmp 141) 25 rfl 9 3 .i64 law Yba.underlying25 Yba.underlying3 (zeroE _) (w.heap.size + 1) (4 + (tagsOf idx).length) D rfl hown _ _ rfl (keyIs (keyS_size 2)) ?_)
                    intro c hat hwc
                    clear hat hwc
                    go_wp2_with fail
                    go_round
                    case rel => exact ⟨3, by omega, rfl, by rw [HN.out]⟩
                    case measure => simp [intOf]
                  | true =>
                    cases hh : hasB (tagsOf idx) (keyS 2) with
                    | false =>
                      as_aux_lemma =>
                      have hres : resOf p (cn c0 c1 c2 c3) true (tagsOf idx) 2 = none := (res_no (by rw [hh]; rfl)).trans HA4.out
                      have hhas : Maps.has D (.string (keyS 2).data.toList) = false := by rw [(HH.out 2 (by omega)).1, hres]; rfl
                      have HN : Hid (cntTo p (cn c0 c1 c2 c3) true (tagsOf idx) 3 = cntTo p (cn c0 c1 c2 c3) true (tagsOf idx) 2) := by rw [cntTo_succ, hres]; rfl
                      clear hres
                      go_wp2_with fail
                      refine Calls.mono (key_any 2 _ (by omega) (by omega)) ?_
                      rintro r w11 ⟨rfl, rfl⟩
                      go_wp2_with fail
                      refine Calls.mono (in_at ta (tagsOf idx) ni tc (keyS 2) _ HT.out (by omega) R9) ?_
                      rintro r w12 ⟨rfl, rfl⟩
                      rw [hh]
                      go_wp2_with (at_lookup; refine wpList_lookup_own_ok_int _ rfl (.tmp 140) (.tmp 141) 25 rfl 9 3 .i64 law Yba.underlying25 Yba.underlying3 (zeroE _) (w.heap.size + 1) (4 + (tagsOf idx).length) D rfl hown _ _ rfl (keyIs (keyS_size 2)) ?_)
                      intro c hat hwc
                      clear hat hwc
                      go_wp2_with fail
                      go_round
                      case rel => exact ⟨3, by omega, rfl, by rw [HN.out]⟩
                      case measure => simp [intOf]
                    | true =>
                      as_aux_lemma =>
                      have hres : resOf p (cn c0 c1 c2 c3) true (tagsOf idx) 2 = none := (res_hit (by rw [hh]; rfl)).trans (by rw [HA4.out]; rfl)
                      have hhas : Maps.has D (.string (keyS 2).data.toList) = false := by rw [(HH.out 2 (by omega)).1, hres]; rfl
                      have HN : Hid (cntTo p (cn c0 c1 c2 c3) true (tagsOf idx) 3 = cntTo p (cn c0 c1 c2 c3) true (tagsOf idx) 2) := by rw [cntTo_succ, hres]; rfl
                      clear hres
                      go_wp2_with fail
                      refine Calls.mono (key_any 2 _ (by omega) (by omega)) ?_
                      rintro r w11 ⟨rfl, rfl⟩
                      go_wp2_with fail
                      refine Calls.mono (in_at ta (tagsOf idx) ni tc (keyS 2) _ HT.out (by omega) R9) ?_
                      rintro r w12 ⟨rfl, rfl⟩
                      rw [hh]
                      go_wp2_with (at_lookup; refine wpList_lookup_own_ok_int _ rfl (.tmp 140) (.tmp 141) 25 rfl 9 3 .i64 law Yba.underlying25 Yba.underlying3 (zeroE _) (w.heap.size + 1) (4 + (tagsOf idx).length) D rfl hown _ _ rfl (keyIs (keyS_size 2)) ?_)
                      intro c hat hwc
                      clear hat hwc
                      go_wp2_with fail
                      go_round
                      case rel => exact ⟨3, by omega, rfl, by rw [HN.out]⟩
                      case measure => simp [intOf]
                | true =>
                  have HA4 : Hid (at4 p (cn c0 c1 c2 c3) 2 = some c2) := at4_yes hb
                  cases act with
                  | false =>
                    as_aux_lemma =>
                    have hres : resOf p (cn c0 c1 c2 c3) false (tagsOf idx) 2 = some (c2) := (res_no rfl).trans HA4.out
                    have hhas : Maps.has D (.string (keyS 2).data.toList) = true := by rw [(HH.out 2 (by omega)).1, hres]; rfl
                    have HV : Hid (∀ z, D.atKey (.string (keyS 2).data.toList) z = val (some (c2)) z) := fun z => by rw [(HH.out 2 (by omega)).2, hres]
                    have HN : Hid (cntTo p (cn c0 c1 c2 c3) false (tagsOf idx) 3 = cntTo p (cn c0 c1 c2 c3) false (tagsOf idx) 2 + 1) := by rw [cntTo_succ, hres]; rfl
                    clear hres
                    go_wp2_with fail
                    refine Calls.mono (key_any 2 _ (by omega) (by omega)) ?_
                    rintro r w11 ⟨rfl, rfl⟩
                    go_wp2_with (at_lookup; refine wpList_lookup_own_ok_int _ rfl (.tmp 140) (.tmp 141) 25 rfl 9 3 .i64 law Yba.underlying25 Yba.underlying3 (zeroE _) (w.heap.size + 1) (4 + (tagsOf idx).length) D rfl hown _ _ rfl (keyIs (keyS_size 2)) ?_)
                    intro c hat hwc
                    obtain rfl : c = c2 := val_some (hat.symm.trans (HV.out _))
                    clear hat hwc
                    go_wp2_with fail
                    go_round
                    case rel => exact ⟨3, by omega, rfl, by rw [HN.out]; first | rfl | go_num⟩
                    case measure => simp [intOf]
                  | true =>
                    cases hh : hasB (tagsOf idx) (keyS 2) with
                    | false =>
                      as_aux_lemma =>
                      have hres : resOf p (cn c0 c1 c2 c3) true (tagsOf idx) 2 = some (c2) := (res_no (by rw [hh]; rfl)).trans HA4.out
                      have hhas : Maps.has D (.string (keyS 2).data.toList) = true := by rw [(HH.out 2 (by omega)).1, hres]; rfl
                      have HV : Hid (∀ z, D.atKey (.string (keyS 2).data.toList) z = val (some (c2)) z) := fun z => by rw [(HH.out 2 (by omega)).2, hres]
                      have HN : Hid (cntTo p (cn c0 c1 c2 c3) true (tagsOf idx) 3 = cntTo p (cn c0 c1 c2 c3) true (tagsOf idx) 2 + 1) := by rw [cntTo_succ, hres]; rfl
                      clear hres
                      go_wp2_with fail
                      refine Calls.mono (key_any 2 _ (by omega) (by omega)) ?_
                      rintro r w11 ⟨rfl, rfl⟩
                      go_wp2_with fail
                      refine Calls.mono (in_at ta (tagsOf idx) ni tc (keyS 2) _ HT.out (by omega) R9) ?_
                      rintro r w12 ⟨rfl, rfl⟩
                      rw [hh]
                      go_wp2_with (at_lookup; refine wpList_lookup_own_ok_int _ rfl (.tmp 140) (.tmp 141) 25 rfl 9 3 .i64 law Yba.underlying25 Yba.underlying3 (zeroE _) (w.heap.size + 1) (4 + (tagsOf idx).length) D rfl hown _ _ rfl (keyIs (keyS_size 2)) ?_)
                      intro c hat hwc
                      obtain rfl : c = c2 := val_some (hat.symm.trans (HV.out _))
                      clear hat hwc
                      go_wp2_with fail
                      go_round
                      case rel => exact ⟨3, by omega, rfl, by rw [HN.out]; first | rfl | go_num⟩
                      case measure => simp [intOf]
                    | true =>
                      by_cases hgt : 1 < c2
                      · have hbd := bounds_i64 W2.out
                        as_aux_lemma =>
                        have hres : resOf p (cn c0 c1 c2 c3) true (tagsOf idx) 2 = some (c2 - 1) := (res_hit (by rw [hh]; rfl)).trans (by rw [HA4.out]; exact dec1_more (o := some c2) rfl hgt)
                        have hhas : Maps.has D (.string (keyS 2).data.toList) = true := by rw [(HH.out 2 (by omega)).1, hres]; rfl
                        have HV : Hid (∀ z, D.atKey (.string (keyS 2).data.toList) z = val (some (c2 - 1)) z) := fun z => by rw [(HH.out 2 (by omega)).2, hres]
                        have HN : Hid (cntTo p (cn c0 c1 c2 c3) true (tagsOf idx) 3 = cntTo p (cn c0 c1 c2 c3) true (tagsOf idx) 2 + 1) := by rw [cntTo_succ, hres]; rfl
                        clear hres
                        go_wp2_with fail
                        refine Calls.mono (key_any 2 _ (by omega) (by omega)) ?_
                        rintro r w11 ⟨rfl, rfl⟩
                        go_wp2_with fail
                        refine Calls.mono (in_at ta (tagsOf idx) ni tc (keyS 2) _ HT.out (by omega) R9) ?_
                        rintro r w12 ⟨rfl, rfl⟩
                        rw [hh]
                        go_wp2_with (at_lookup; refine wpList_lookup_own_ok_int _ rfl (.tmp 140) (.tmp 141) 25 rfl 9 3 .i64 law Yba.underlying25 Yba.underlying3 (zeroE _) (w.heap.size + 1) (4 + (tagsOf idx).length) D rfl hown _ _ rfl (keyIs (keyS_size 2)) ?_)
                        intro c hat hwc
                        obtain rfl : c = c2 - 1 := val_some (hat.symm.trans (HV.out _))
                        clear hat hwc
                        go_wp2_with fail
                        go_round
                        case rel => exact ⟨3, by omega, rfl, by rw [HN.out]; first | rfl | go_num⟩
                        case measure => simp [intOf]
                      · as_aux_lemma =>
                        have hres : resOf p (cn c0 c1 c2 c3) true (tagsOf idx) 2 = none := (res_hit (by rw [hh]; rfl)).trans (by rw [HA4.out]; exact dec1_less (o := some c2) rfl hgt)
                        have hhas : Maps.has D (.string (keyS 2).data.toList) = false := by rw [(HH.out 2 (by omega)).1, hres]; rfl
                        have HN : Hid (cntTo p (cn c0 c1 c2 c3) true (tagsOf idx) 3 = cntTo p (cn c0 c1 c2 c3) true (tagsOf idx) 2) := by rw [cntTo_succ, hres]; rfl
                        clear hres
                        go_wp2_with fail
                        refine Calls.mono (key_any 2 _ (by omega) (by omega)) ?_
                        rintro r w11 ⟨rfl, rfl⟩
                        go_wp2_with fail
                        refine Calls.mono (in_at ta (tagsOf idx) ni tc (keyS 2) _ HT.out (by omega) R9) ?_
                        rintro r w12 ⟨rfl, rfl⟩
                        rw [hh]
                        go_wp2_with (at_lookup; refine wpList_lookup_own_ok_int _ rfl (.tmp 140) (.tmp 141) 25 rfl 9 3 .i64 law Yba.underlying25 Yba.underlying3 (zeroE _) (w.heap.size + 1) (4 + (tagsOf idx).length) D rfl hown _ _ rfl (keyIs (keyS_size 2)) ?_)
                        intro c hat hwc
                        clear hat hwc
                        go_wp2_with fail
                        go_round
                        case rel => exact ⟨3, by omega, rfl, by rw [HN.out]⟩
                        case measure => simp [intOf]
              · have hcl := HC9.out 3 _ rfl
                have R9 := HR9.out
                cases hb : (bits BinOp.and IntKind.u8 p 8 != 0) with
                | false =>
                  have HA4 : Hid (at4 p (cn c0 c1 c2 c3) 3 = none) := at4_no hb
                  cases act with
                  | false =>
                    as_aux_lemma =>
                    have hres : resOf p (cn c0 c1 c2 c3) false (tagsOf idx) 3 = none := (res_no rfl).trans HA4.out
                    have hhas : Maps.has D (.string (keyS 3).data.toList) = false := by rw [(HH.out 3 (by omega)).1, hres]; rfl
                    have HN : Hid (cntTo p (cn c0 c1 c2 c3) false (tagsOf idx) 4 = cntTo p (cn c0 c1 c2 c3) false (tagsOf idx) 3) := by rw [cntTo_succ, hres]; rfl
                    clear hres
                    go_wp2_with fail
                    refine Calls.mono (key_any 3 _ (by omega) (by omega)) ?_
                    rintro r w11 ⟨rfl, rfl⟩
                    go_wp2_with (at_lookup; refine wpList_lookup_own_ok_int _ rfl (.tmp 140) (.tmp 141) 25 rfl 9 3 .i64 law Yba.underlying25 Yba.underlying3 (zeroE _) (w.heap.size + 1) (4 + (tagsOf idx).length) D rfl hown _ _ rfl (keyIs (keyS_size 3)) ?_)
                    intro c hat hwc
                    clear hat hwc
                    go_wp2_with fail
                    go_round
                    case rel => exact ⟨4, by omega, rfl, by rw [HN.out]⟩
                    case measure => simp [intOf]
                  | true =>
                    cases hh : hasB (tagsOf idx) (keyS 3) with
                    | false =>
                      as_aux_lemma =>
                      have hres : resOf p (cn c0 c1 c2 c3) true (tagsOf idx) 3 = none := (res_no (by rw [hh]; rfl)).trans HA4.out
                      have hhas : Maps.has D (.string (keyS 3).data.toList) = false := by rw [(HH.out 3 (by omega)).1, hres]; rfl
                      have HN : Hid (cntTo p (cn c0 c1 c2 c3) true (tagsOf idx) 4 = cntTo p (cn c0 c1 c2 c3) true (tagsOf idx) 3) := by rw [cntTo_succ, hres]; rfl
                      clear hres
                      go_wp2_with fail
                      refine Calls.mono (key_any 3 _ (by omega) (by omega)) ?_
                      rintro r w11 ⟨rfl, rfl⟩
                      go_wp2_with fail
                      refine Calls.mono (in_at ta (tagsOf idx) ni tc (keyS 3) _ HT.out (by omega) R9) ?_
                      rintro r w12 ⟨rfl, rfl⟩
                      rw [hh]
                      go_wp2_with (at_lookup; refine wpList_lookup_own_ok_int _ rfl (.tmp 140) (.tmp 141) 25 rfl 9 3 .i64 law Yba.underlying25 Yba.underlying3 (zeroE _) (w.heap.size + 1) (4 + (tagsOf idx).length) D rfl hown _ _ rfl (keyIs (keyS_size 3)) ?_)
                      intro c hat hwc
                      clear hat hwc
                      go_wp2_with fail
                      go_round
                      case rel => exact ⟨4, by omega, rfl, by rw [HN.out]⟩
                      case measure => simp [intOf]
                    | true =>
                      as_aux_lemma =>
                      have hres : resOf p (cn c0 c1 c2 c3) true (tagsOf idx) 3 = none := (res_hit (by rw [hh]; rfl)).trans (by rw [HA4.out]; rfl)
                      have hhas : Maps.has D (.string (keyS 3).data.toList) = false := by rw [(HH.out 3 (by omega)).1, hres]; rfl
                      have HN : Hid (cntTo p (cn c0 c1 c2 c3) true (tagsOf idx) 4 = cntTo p (cn c0 c1 c2 c3) true (tagsOf idx) 3) := by rw [cntTo_succ, hres]; rfl
                      clear hres
                      go_wp2_with fail
                      refine Calls.mono (key_any 3 _ (by omega) (by omega)) ?_
                      rintro r w11 ⟨rfl, rfl⟩
                      go_wp2_with fail
                      refine Calls.mono (in_at ta (tagsOf idx) ni tc (keyS 3) _ HT.out (by omega) R9) ?_
                      rintro r w12 ⟨rfl, rfl⟩
                      rw [hh]
                      go_wp2_with (at_lookup; refine wpList_lookup_own_ok_int _ rfl (.tmp 140) (.tmp 141) 25 rfl 9 3 .i64 law Yba.underlying25 Yba.underlying3 (zeroE _) (w.heap.size + 1) (4 + (tagsOf idx).length) D rfl hown _ _ rfl (keyIs (keyS_size 3)) ?_)
                      intro c hat hwc
                      clear hat hwc
                      go_wp2_with fail
                      go_round
                      case rel => exact ⟨4, by omega, rfl, by rw [HN.out]⟩
                      case measure => simp [intOf]
                | true =>
                  have HA4 : Hid (at4 p (cn c0 c1 c2 c3) 3 = some c3) := at4_yes hb
                  cases act with
                  | false =>
                    as_aux_lemma =>
                    have hres : resOf p (cn c0 c1 c2 c3) false (tagsOf idx) 3 = some (c3) := (res_no rfl).trans HA4.out
                    have hhas : Maps.has D (.string (keyS 3).data.toList) = true := by rw [(HH.out 3 (by omega)).1, hres]; rfl
                    have HV : Hid (∀ z, D.atKey (.string (keyS 3).data.toList) z = val (some (c3)) z) := fun z => by rw [(HH.out 3 (by omega)).2, hres]
                    have HN : Hid (cntTo p (cn c0 c1 c2 c3) false (tagsOf idx) 4 = cntTo p (cn c0 c1 c2 c3) false (tagsOf idx) 3 + 1) := by rw [cntTo_succ, hres]; rfl
                    clear hres
                    go_wp2_with fail
                    refine Calls.mono (key_any 3 _ (by omega) (by omega)) ?_
                    rintro r w11 ⟨rfl, rfl⟩
                    go_wp2_with (at_lookup; refine wpList_lookup_own_ok_int _ rfl (.tmp 140) (.tmp 141) 25 rfl 9 3 .i64 law Yba.underlying25 Yba.underlying3 (zeroE _) (w.heap.size + 1) (4 + (tagsOf idx).length) D rfl hown _ _ rfl (keyIs (keyS_size 3)) ?_)
                    intro c hat hwc
                    obtain rfl : c = c3 := val_some (hat.symm.trans (HV.out _))
                    clear hat hwc
                    go_wp2_with fail
                    go_round
                    case rel => exact ⟨4, by omega, rfl, by rw [HN.out]; first | rfl | go_num⟩
                    case measure => simp [intOf]
                  | true =>
                    cases hh : hasB (tagsOf idx) (keyS 3) with
                    | false =>
                      as_aux_lemma =>
                      have hres : resOf p (cn c0 c1 c2 c3) true (tagsOf idx) 3 = some (c3) := (res_no (by rw [hh]; rfl)).trans HA4.out
                      have hhas : Maps.has D (.string (keyS 3).data.toList) = true := by rw [(HH.out 3 (by omega)).1, hres]; rfl
                      have HV : Hid (∀ z, D.atKey (.string (keyS 3).data.toList) z = val (some (c3)) z) := fun z => by rw [(HH.out 3 (by omega)).2, hres]
                      have HN : Hid (cntTo p (cn c0 c1 c2 c3) true (tagsOf idx) 4 = cntTo p (cn c0 c1 c2 c3) true (tagsOf idx) 3 + 1) := by rw [cntTo_succ, hres]; rfl
                      clear hres
                      go_wp2_with fail
                      refine Calls.mono (key_any 3 _ (by omega) (by omega)) ?_
                      rintro r w11 ⟨rfl, rfl⟩
                      go_wp2_with fail
                      refine Calls.mono (in_at ta (tagsOf idx) ni tc (keyS 3) _ HT.out (by omega) R9) ?_
                      rintro r w12 ⟨rfl, rfl⟩
                      rw [hh]
                      go_wp2_with (at_lookup; refine wpList_lookup_own_ok_int _ rfl (.tmp 140) (.tmp 141) 25 rfl 9 3 .i64 law Yba.underlying25 Yba.underlying3 (zeroE _) (w.heap.size + 1) (4 + (tagsOf idx).length) D rfl hown _ _ rfl (keyIs (keyS_size 3)) ?_)
                      intro c hat hwc
                      obtain rfl : c = c3 := val_some (hat.symm.trans (HV.out _))
                      clear hat hwc
                      go_wp2_with fail
                      go_round
                      case rel => exact ⟨4, by omega, rfl, by rw [HN.out]; first | rfl | go_num⟩
                      case measure => simp [intOf]
                    | true =>
                      by_cases hgt : 1 < c3
                      · have hbd := bounds_i64 W3.out
                        as_aux_lemma =>
                        have hres : resOf p (cn c0 c1 c2 c3) true (tagsOf idx) 3 = some (c3 - 1) := (res_hit (by rw [hh]; rfl)).trans (by rw [HA4.out]; exact dec1_more (o := some c3) rfl hgt)
                        have hhas : Maps.has D (.string (keyS 3).data.toList) = true := by rw [(HH.out 3 (by omega)).1, hres]; rfl
                        have HV : Hid (∀ z, D.atKey (.string (keyS 3).data.toList) z = val (some (c3 - 1)) z) := fun z => by rw [(HH.out 3 (by omega)).2, hres]
                        have HN : Hid (cntTo p (cn c0 c1 c2 c3) true (tagsOf idx) 4 = cntTo p (cn c0 c1 c2 c3) true (tagsOf idx) 3 + 1) := by rw [cntTo_succ, hres]; rfl
                        clear hres
                        go_wp2_with fail
                        refine Calls.mono (key_any 3 _ (by omega) (by omega)) ?_
                        rintro r w11 ⟨rfl, rfl⟩
                        go_wp2_with fail
                        refine Calls.mono (in_at ta (tagsOf idx) ni tc (keyS 3) _ HT.out (by omega) R9) ?_
                        rintro r w12 ⟨rfl, rfl⟩
                        rw [hh]
                        go_wp2_with (at_lookup; refine wpList_lookup_own_ok_int _ rfl (.tmp 140) (.tmp 141) 25 rfl 9 3 .i64 law Yba.underlying25 Yba.underlying3 (zeroE _) (w.heap.size + 1) (4 + (tagsOf idx).length) D rfl hown _ _ rfl (keyIs (keyS_size 3)) ?_)
                        intro c hat hwc
                        obtain rfl : c = c3 - 1 := val_some (hat.symm.trans (HV.out _))
                        clear hat hwc
                        go_wp2_with fail
                        go_round
                        case rel => exact ⟨4, by omega, rfl, by rw [HN.out]; first | rfl | go_num⟩
                        case measure => simp [intOf]
                      · as_aux_lemma =>
                        have hres : resOf p (cn c0 c1 c2 c3) true (tagsOf idx) 3 = none := (res_hit (by rw [hh]; rfl)).trans (by rw [HA4.out]; exact dec1_less (o := some c3) rfl hgt)
                        have hhas : Maps.has D (.string (keyS 3).data.toList) = false := by rw [(HH.out 3 (by omega)).1, hres]; rfl
                        have HN : Hid (cntTo p (cn c0 c1 c2 c3) true (tagsOf idx) 4 = cntTo p (cn c0 c1 c2 c3) true (tagsOf idx) 3) := by rw [cntTo_succ, hres]; rfl
                        clear hres
                        go_wp2_with fail
                        refine Calls.mono (key_any 3 _ (by omega) (by omega)) ?_
                        rintro r w11 ⟨rfl, rfl⟩
                        go_wp2_with fail
                        refine Calls.mono (in_at ta (tagsOf idx) ni tc (keyS 3) _ HT.out (by omega) R9) ?_
                        rintro r w12 ⟨rfl, rfl⟩
                        rw [hh]
                        go_wp2_with (at_lookup; refine wpList_lookup_own_ok_int _ rfl (.tmp 140) (.tmp 141) 25 rfl 9 3 .i64 law Yba.underlying25 Yba.underlying3 (zeroE _) (w.heap.size + 1) (4 + (tagsOf idx).length) D rfl hown _ _ rfl (keyIs (keyS_size 3)) ?_)
                        intro c hat hwc
                        clear hat hwc
                        go_wp2_with fail
                        go_round
                        case rel => exact ⟨4, by omega, rfl, by rw [HN.out]⟩
                        case measure => simp [intOf]
              · have hz := HZ.out
                have hss := same_self iw ie
                have HHid := HH
                clear HH hcle hk
                go_wp2_with (at_len; refine wpList_len_own _ rfl (.tmp 157) 25 rfl 9 3 Yba.underlying25 _ (w.heap.size + 1) (4 + (tagsOf idx).length) D rfl hown ?_)
                clear hown HHid
                go_upto_region 45 with fail
                go_cut [188] (fun v wd => v = .bool false ∧ Below wc.heap.size wc wd)
                case first =>
                  as_aux_lemma =>
                  have hq1 : qb < wc.heap.size := by omega
                  have hq2 : qb ≠ wc.heap.size := by omega
                  have hq3 : qb ≠ wc.heap.size + 1 := by omega
                  clear HR9 HC9 HI9 HB9 he5 he6 he7
                  have hcc0 : (counted != counted) = false := by simp
                  · go_region_held3 (fun w' => w'.cell? ⟨qb, 0, none⟩ = some (.slice none 0 0) ∧ w'.cell? ⟨qb, 1, none⟩ = some (.bool counted) ∧ w'.cell? ⟨qb, 2, none⟩ = some (.int .u64 iw) ∧ w'.cell? ⟨qb, 3, none⟩ = some (.int .i64 ie) ∧ w'.cell? ⟨qb, 4, none⟩ = some (.pointer none) ∧ w'.cell? ⟨qb, 6, none⟩ = some (.bool false) ∧ w'.cell? ⟨ib, 0, none⟩ = some (.int .u64 iw) ∧ w'.cell? ⟨ib, 1, none⟩ = some (.int .i64 ie) ∧ w'.cell? ⟨ib, 2, none⟩ = some (.pointer none)) (go_keep)
                      ((go_at_call 9; refine Calls.mono (equal_any iw ie iw ie _ q0 q1 q0 q1) ?_; rintro r w1 ⟨rfl, rfl⟩))
                    all_goals
                      go_wp2_with fail
                      go_meet
                      exact ⟨rfl, by repeat (first | exact Below.refl _ _ | refine Below.drew ?_ | (refine Below.alloc ?_ (by first | (simp; done) | (simp; omega)) _))⟩
                case rest =>
                  as_aux_lemma =>
                  obtain ⟨rfl, hbd⟩ := hcut
                  have HBD : Hid (Below w.heap.size w _) := HB9.out.trans (hbd.mono HB9.out.size)
                  have HRD : Hid (Row _ ta (tagsOf idx)) := HR9.out.below hbd
                  have HID : Hid (RowU _ ia idx) := HI9.out.below hbd
                  have lq := World.block_lt_of_cell? _ _ he5
                  have f5 := (hbd.cell lq).trans he5
                  have f6 := (hbd.cell (World.block_lt_of_cell? _ _ he6)).trans he6
                  have f7 := (hbd.cell (World.block_lt_of_cell? _ _ he7)).trans he7
                  clear he5 he6 he7 hz0 hz1 hz2 hz3 hz4 hz5 hz6 j0 j1 j2 hbd HR9 HC9 HI9 HB9 hz HZ hss lq
                  have hneg : ¬ (arriving != arriving) = true := by simp
                  go_wp2
                  have l6 : eb < wc.heap.size := World.block_lt_of_cell? _ _ f6
                  go_loopw [34] (fun i wq => ∃ k : Nat, k ≤ ni ∧ i = .int .i64 k ∧ Below wc.heap.size wc wq) (fun i _ => ni - (intOf i).toNat)
                  case atStart => exact ⟨0, Nat.zero_le _, rfl, Below.refl _ _⟩
                  case round =>
                    obtain ⟨k, hk, rfl, hbq⟩ := hrel
                    have g6 : wr.cell? ⟨eb, 6, none⟩ = some (.slice ta ni tc) := (hbq.cell l6).trans f6
                    by_cases hlt : k < ni
                    · have hli : k < idx.length := by rw [Ei.out]; exact hlt
                      have hlt2 : k < (tagsOf idx).length := by rw [HT.out]; exact hlt
                      rcases HID.out.below hbq with hnil | ⟨ib2, io, ea, hcells⟩
                      · rw [hnil] at hli; simp at hli
                      · subst ea
                        obtain ⟨hck, hx0, hx1⟩ := hcells k hli
                        rcases HRD.out.below hbq with hnil | ⟨tb2, to2, et, htags⟩
                        · rw [hnil] at hlt2; simp at hlt2
                        · subst et
                          have htk := htags k hlt2
                          rw [tagsOf_at idx k hlt2] at htk
                          have hm0 : 0 ≤ idx[k] % 5 := Int.emod_nonneg _ (by omega)
                          have hm1 : idx[k] % 5 ≤ 4 := by omega
                          have HBQ : Hid (Below wc.heap.size wc wr) := hbq
                          clear hcells htags hbq f5 f6 f7
                          generalize idx[k] = x at *
                          go_wp2_with fail
                          go_quiet ((go_at_call 5; exact Calls.quiet_of_same (key_any (x % 5) _ hm0 hm1)))
                          go_wp2
                          go_roundw
                          case rel => exact ⟨k + 1, by omega, by go_num, below_drawn HBQ.out _⟩
                          case measure => simp [intOf]; omega
                    · have HBQ : Hid (Below w.heap.size w wr) := HBD.out.trans (hbq.mono HBD.out.size)
                      clear hbq
                      go_wp2
                      go_ret
                      exact ⟨rfl, HBQ.out⟩
end Go.Proofs.Ybulkblnk
