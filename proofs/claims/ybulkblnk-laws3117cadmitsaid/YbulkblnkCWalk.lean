/-
  THE WALK of LawS3117CAdmit.
-/
import Derived.Test.YbulkblnkRead
import Derived.Deep.RegionHeld3
import Derived.Deep.DeepCutAuto
import Derived.OwnWalk
import Derived.Laws.CopyOwn
namespace Go.Proofs.Ybulkblnk
open Go.RowKit Go.Maps

theorem infoS : (Yba.prog.info? 9).map (fun i => (i.zero, i.size, i.bytes)) = some (some (.string ByteArray.empty), 1, 16) := by kernel_rfl
theorem infoT : (Yba.prog.info? 9).map (·.size) = some 1 := by kernel_rfl
theorem oneS {tags : List ByteArray} : ∀ v ∈ tags.map Value.string, v.oneCell' = true := by
  intro v hv
  obtain ⟨s, _, rfl⟩ := List.mem_map.1 hv
  rfl
theorem splice_at (cur : List Value) (tags : List ByteArray) (i : Nat) (hi : i < tags.length) : (splice cur 0 (tags.map Value.string)).toArray[0 + i]? = some (.string tags[i]) := by
  unfold splice
  have e : (0 : Nat) + i = i := Nat.zero_add i
  rw [e]
  simp only [List.take_zero, List.nil_append, List.getElem?_toArray]
  rw [List.getElem?_append_left (by simpa using hi), List.getElem?_map, List.getElem?_eq_getElem hi]
  rfl

theorem hasL_hit (l : List ByteArray) (i k : Nat) (h : i < l.length) (hik : i < k) (s : List UInt8) (e : (l[i].data.toList == s) = true) : hasL (l.take k) s = true := by
  unfold hasL
  rw [List.any_eq_true]
  have hlen : i < (l.take k).length := by rw [List.length_take]; omega
  refine ⟨(l.take k)[i], List.getElem_mem hlen, ?_⟩
  rw [List.getElem_take]; exact e

set_option maxRecDepth 100000 in
set_option maxHeartbeats 40000000 in
theorem law_admit (seq atN : Int) (same counted wide : Bool) (ta : Option Addr) (tags : List ByteArray) (nt ct : Nat) (pa : Option Addr) (pre : List ByteArray) (np cp : Nat) (w : World)
    (n0 : -9223372036854775808 ≤ atN) (n1 : atN ≤ 9223372036854775807)
    (et : tags.length = nt) (mt : nt ≤ maxLen) (Rt : Row w ta tags) (st : ∀ s ∈ tags, s.size ≤ maxLen) (ep : pre.length = np) (mp : np ≤ maxLen) (Rp : Row w pa pre) (sp : ∀ s ∈ pre, s.size ≤ maxLen) :
    Calls Yba.prog 4 #[.int .u64 seq, .int .i64 atN, .bool same, .bool counted, .bool wide, .slice ta nt ct, .slice pa np cp] w fun e w' => e = .returned (.bool true) ∧ Below w.heap.size w w' := by
  unfold maxLen at mt mp
  have Et : Hid (tags.length = nt) := et
  have Ep : Hid (pre.length = np) := ep
  have St : Hid (∀ s ∈ tags, s.size ≤ maxLen) := st
  have Sp : Hid (∀ s ∈ pre, s.size ≤ maxLen) := sp
  clear et ep st sp
  by_cases h1 : 1024 < nt
  · go_enter Yba.func4, Yba.ntmps4
    go_wp2
    go_ret
    exact ⟨rfl, Below.refl _ _⟩
  by_cases h2 : 1024 < np
  · go_enter Yba.func4, Yba.ntmps4
    go_wp2
    go_ret
    exact ⟨rfl, Below.refl _ _⟩
  have hmm := @run_makeMap Yba.prog
  go_enter Yba.func4, Yba.ntmps4
  go_wp2_with fail
  refine Calls.mono (add_zero atN _ n0 n1) ?_
  rintro r u1 ⟨rfl, hb1⟩
  have w0 : 0 ≤ atN % 1000000000 := Int.emod_nonneg _ (by omega)
  have w1 : atN % 1000000000 < 1000000000 := Int.emod_lt_of_pos _ (by omega)
  have e0 : -100000000000 ≤ atN / 1000000000 := by omega
  have e1 : atN / 1000000000 ≤ 100000000000 := by omega
  clear n0 n1
  generalize atN % 1000000000 = aw at *
  generalize atN / 1000000000 = ae at *
  have hs1 : w.heap.size ≤ u1.heap.size := hb1.size
  have HB1 : Hid (Below w.heap.size w u1) := hb1
  clear hb1
  go_upto_if 48 with fail
  go_cut [48] (fun v wd => ∃ iw ie, (0 ≤ iw ∧ iw < 1000000000) ∧ sameT aw ae iw ie = same ∧ TM wd u1.heap.size (u1.heap.size + 1) aw ae iw ie ∧ u1.heap.size + 1 < wd.heap.size ∧ Below w.heap.size w wd)
  case first =>
    as_aux_lemma =>
    cases same with
    | true =>
      go_wp2_with fail
      go_meet
      exact ⟨aw, ae, ⟨w0, w1⟩, sameT_self _ _, ⟨by go_simp, by go_simp, by go_simp, by go_simp, by go_simp, by go_simp⟩, by simp, (HB1.out.alloc hs1 _).alloc (by simp; omega) _⟩
    | false =>
      go_wp2_with fail
      refine Calls.mono (add_any aw ae 1 _ w0 w1 e0 e1 (by omega) (by omega)) ?_
      rintro r u2 ⟨rfl, hb2⟩
      have hs2 : u1.heap.size + 1 + 1 ≤ u2.heap.size := by have := hb2.size; simpa using this
      have t0 : u2.cell? ⟨u1.heap.size, 0, none⟩ = some (.int .u64 aw) := (hb2.cell (by simp; omega)).trans (by go_simp)
      have t1 : u2.cell? ⟨u1.heap.size, 1, none⟩ = some (.int .i64 ae) := (hb2.cell (by simp; omega)).trans (by go_simp)
      have t2 : u2.cell? ⟨u1.heap.size, 2, none⟩ = some (.pointer none) := (hb2.cell (by simp; omega)).trans (by go_simp)
      have i0 : u2.cell? ⟨u1.heap.size + 1, 0, none⟩ = some (.int .u64 aw) := (hb2.cell (by simp)).trans (by go_simp)
      have i1 : u2.cell? ⟨u1.heap.size + 1, 1, none⟩ = some (.int .i64 ae) := (hb2.cell (by simp)).trans (by go_simp)
      have i2 : u2.cell? ⟨u1.heap.size + 1, 2, none⟩ = some (.pointer none) := (hb2.cell (by simp)).trans (by go_simp)
      have z0 : u2.frozen? ⟨u1.heap.size + 1, 0, none⟩ = false := (hb2.frozen (by simp)).trans (by go_simp)
      have z1 : u2.frozen? ⟨u1.heap.size + 1, 1, none⟩ = false := (hb2.frozen (by simp)).trans (by go_simp)
      have z2 : u2.frozen? ⟨u1.heap.size + 1, 2, none⟩ = false := (hb2.frozen (by simp)).trans (by go_simp)
      have HB2 : Hid (Below w.heap.size w u2) := ((HB1.out.alloc hs1 _).alloc (by simp; omega) _).trans (hb2.mono (by simp; omega))
      clear hb2
      go_wp2_with fail
      go_meet
      refine ⟨(aw + 1) % 1000000000, ae + (aw + 1) / 1000000000, ⟨Int.emod_nonneg _ (by omega), Int.emod_lt_of_pos _ (by omega)⟩, sameT_next _ _, ⟨by go_simp, by go_simp, by go_simp, by go_simp, by go_simp, by go_simp⟩, by simp; omega, ((HB2.out.setCell (by simp; omega) _).setCell (by simp; omega) _).setCell (by simp; omega) _⟩
  case rest =>
    obtain ⟨iw, ie, ⟨r0, r1⟩, hsame, hTM, hs2, hB2⟩ := hcut
    rename World => wA
    have HTM : Hid (TM wA u1.heap.size (u1.heap.size + 1) aw ae iw ie) := hTM
    have HB2 : Hid (Below w.heap.size w wA) := hB2
    have HSM : Hid (sameT aw ae iw ie = same) := hsame
    clear hTM hB2 HB1 hsame e0 e1
    generalize u1.heap.size = ab at *
    go_upto_if 54 with fail
    generalize hbp : decide (0 < np) = bp
    go_cut [17] (fun v we => ∃ m0 : Option Nat, v = .map m0 ∧ ((m0 = none ∧ ∀ s, preTo pre np s = none) ∨ (m0 = some (wA.heap.size + 1) ∧ MapIs we (wA.heap.size + 1) np (preTo pre np))) ∧ MapIs we wA.heap.size np (preTo pre np) ∧ Below wA.heap.size wA we)
    case first =>
      as_aux_lemma =>
      cases bp
      rotate_left
      · clear hbp
        have hmB : MapIs ((wA.alloc (.map #[] 0)).alloc (.map #[] 0)) (wA.heap.size + 1) 0 (preTo pre 0) := by
          have h := World.ownsMap_made (wA.alloc (.map #[] 0)) Yba.prog 9 (plainElem (H := Unit) Yba.prog 3)
          rw [World.size_alloc] at h
          exact ⟨_, h, sees_empty⟩
        have hxB : MapIs ((wA.alloc (.map #[] 0)).alloc (.map #[] 0)) wA.heap.size 0 (preTo pre 0) :=
          MapIs.alloc ⟨_, World.ownsMap_made wA Yba.prog 9 (plainElem (H := Unit) Yba.prog 3), sees_empty⟩ _
        have HMB : Hid (MapIs ((wA.alloc (.map #[] 0)).alloc (.map #[] 0)) (wA.heap.size + 1) 0 (preTo pre 0)) := hmB
        have HXB : Hid (MapIs ((wA.alloc (.map #[] 0)).alloc (.map #[] 0)) wA.heap.size 0 (preTo pre 0)) := hxB
        clear hmB hxB
        go_wp2_with fail
        go_loopw [58] (fun i wr => ∃ k : Nat, k ≤ np ∧ i = .int .i64 k ∧ MapIs wr (wA.heap.size + 1) k (preTo pre k) ∧ MapIs wr wA.heap.size k (preTo pre k) ∧ Below wA.heap.size wA wr) (fun i _ => np - (intOf i).toNat)
        case atStart => exact ⟨0, Nat.zero_le _, rfl, HMB.out, HXB.out, ((Below.refl _ _).alloc (Nat.le_refl _) _).alloc (by simp) _⟩
        case round =>
          clear HMB HXB hmm
          obtain ⟨k, hk, rfl, hM, hX, hbr⟩ := hrel
          by_cases hlt : k < np
          · have hli : k < pre.length := by rw [Ep.out]; exact hlt
            have hbw : Below w.heap.size w wr := HB2.out.trans (hbr.mono HB2.out.size)
            rcases Rp.below hbw with hnil | ⟨b, off, rfl, hcells⟩
            · rw [hnil] at hli; simp at hli
            · have hck := hcells k hli
              have HK : Hid (keyOf Yba.prog 9 (.string pre[k]) = some (.string pre[k].data.toList)) := keyIs (Sp.out _ (List.getElem_mem hli))
              have HN : Hid (∀ c, (preTo pre k pre[k].data.toList).getD 0 = c → ∀ s, upd (preTo pre k) pre[k].data.toList (some (c + 1)) s = preTo pre (k + 1) s) := fun c hc => preTo_step hli hc
              have hbd := preTo_bound pre k pre[k].data.toList
              have HBR : Hid (Below wA.heap.size wA wr) := hbr
              have hsz : wA.heap.size + 1 < wr.heap.size := hM.lt
              clear hcells hbw hbr
              generalize pre[k] = x at *
              obtain ⟨D, hown, hsees⟩ := hM
              have HS : Hid (Sees D (preTo pre k)) := hsees
              clear hsees
              go_wp2_with (at_lookup; refine wpList_lookup_own_int _ rfl (.tmp 62) (.tmp 63) 25 rfl 9 3 .i64 law Yba.underlying25 Yba.underlying3 (zeroE _) (wA.heap.size + 1) k D rfl hown _ _ rfl HK.out ?_)
              intro c hat hwA
              have hgd : (preTo pre k x.data.toList).getD 0 = c := by
                rw [HS.out.1] at hat
                exact val_zero hat
              have HG : Hid (∀ s, upd (preTo pre k) x.data.toList (some (c + 1)) s = preTo pre (k + 1) s) := HN.out c hgd
              rw [hgd] at hbd
              have HGD : Hid ((preTo pre k x.data.toList).getD 0 = c) := hgd
              clear hgd hat hwA HN
              go_wp2_with (at_mapUpdate; refine wpList_mapUpdate_own _ rfl (.tmp 62) (.tmp 63) (.tmp 65) 25 rfl 9 3 law Yba.underlying25 _ (wA.heap.size + 1) k D rfl hown (by unfold maxLen; omega) _ _ _ rfl rfl HK.out _ [] (plainElem_int Yba.underlying3 (WalkArith.wf_i64 (by omega))) ?_)
              intro u3 hown3 hgrow3
              have HM3 : Hid (MapIs u3 (wA.heap.size + 1) (k + 1) (preTo pre (k + 1))) := ⟨_, hown3, (HS.out.put hown.isMap _ _).congr HG.out⟩
              have hX3 : MapIs u3 wA.heap.size k (preTo pre k) := hX.kept hgrow3 (by simp)
              have HB3 : Hid (Below wA.heap.size wA u3) := HBR.out.grown hgrow3 HBR.out.size (fun q hq => by cases hq; omega)
              clear hown3 hgrow3 hown HS hX HBR
              obtain ⟨D2, hown2, hsees2⟩ := hX3
              have HS2 : Hid (Sees D2 (preTo pre k)) := hsees2
              clear hsees2
              go_wp2_with (at_lookup; refine wpList_lookup_own_int _ rfl (.tmp 66) (.tmp 67) 24 rfl 9 3 .i64 law Yba.underlying24 Yba.underlying3 (zeroE _) wA.heap.size k D2 rfl hown2 _ _ rfl HK.out ?_)
              intro c2 hat hwA
              obtain rfl : c2 = c := by
                have := HS2.out.1 x.data.toList (.lit (.int .i64 0))
                rw [this] at hat
                exact (val_zero hat).symm.trans HGD.out
              clear hat hwA
              go_wp2_with (at_mapUpdate; refine wpList_mapUpdate_own _ rfl (.tmp 66) (.tmp 67) (.tmp 69) 24 rfl 9 3 law Yba.underlying24 _ wA.heap.size k D2 rfl hown2 (by unfold maxLen; omega) _ _ _ rfl rfl HK.out _ [] (plainElem_int Yba.underlying3 (WalkArith.wf_i64 (by omega))) ?_)
              intro u4 hown4 hgrow4
              have HX4 : Hid (MapIs u4 wA.heap.size (k + 1) (preTo pre (k + 1))) := ⟨_, hown4, (HS2.out.put hown2.isMap _ _).congr HG.out⟩
              have HM4 : Hid (MapIs u4 (wA.heap.size + 1) (k + 1) (preTo pre (k + 1))) := HM3.out.kept hgrow4 (by simp)
              have HB4 : Hid (Below wA.heap.size wA u4) := HB3.out.grown hgrow4 HB3.out.size (fun q hq => by cases hq; omega)
              clear hown4 hgrow4 hown2 HS2 HM3 HB3
              go_wp2_with fail
              go_roundw
              case rel => exact ⟨k + 1, by omega, by go_num, HM4.out, HX4.out, HB4.out⟩
              case measure => simp [intOf]; omega
          · obtain rfl : k = np := by omega
            have HM4 : Hid (MapIs wr (wA.heap.size + 1) k (preTo pre k)) := hM
            have HX4 : Hid (MapIs wr wA.heap.size k (preTo pre k)) := hX
            have HB4 : Hid (Below wA.heap.size wA wr) := hbr
            clear hM hX hbr
            go_wp2_with fail
            go_meet
            exact ⟨some (wA.heap.size + 1), rfl, Or.inr ⟨rfl, HM4.out⟩, HX4.out, HB4.out⟩
      · have hp0 : Hid (np = 0) := by
          have h := of_decide_eq_false hbp
          have : np = 0 := by omega
          exact this
        clear hbp
        go_wp2_with fail
        go_meet
        exact ⟨none, rfl, Or.inl ⟨rfl, fun s => by rw [hp0.out]; rfl⟩, by rw [hp0.out]; exact ⟨_, World.ownsMap_made wA Yba.prog 9 (plainElem (H := Unit) Yba.prog 3), sees_empty⟩, (Below.refl _ _).alloc (Nat.le_refl _) _⟩
    case rest =>
      obtain ⟨m0, rfl, hm0, hX, hB3⟩ := hcut
      have hxl : wA.heap.size < wc.heap.size := hX.lt
      have hTM := HTM.out.below hB3 (by omega) (by omega)
      have HB3 : Hid (Below w.heap.size w wc) := HB2.out.trans (hB3.mono HB2.out.size)
      have HX : Hid (MapIs wc wA.heap.size np (preTo pre np)) := hX
      have HM0 : Hid ((m0 = none ∧ ∀ s, preTo pre np s = none) ∨ (m0 = some (wA.heap.size + 1) ∧ MapIs wc (wA.heap.size + 1) np (preTo pre np))) := hm0
      have hml : ∀ b, m0 = some b → b = wA.heap.size + 1 ∧ b < wc.heap.size := by
        intro b hb
        rcases hm0 with ⟨h, _⟩ | ⟨h, hM⟩
        · rw [h] at hb; cases hb
        · rw [h] at hb; cases hb; exact ⟨rfl, hM.lt⟩
      have HML : Hid (∀ b, m0 = some b → b = wA.heap.size + 1 ∧ b < wc.heap.size) := hml
      have hsw : w.heap.size ≤ wA.heap.size := HB2.out.size
      clear hB3 HTM HB2 hX hm0 hml hmm hbp
      generalize wA.heap.size = xb at *
      obtain ⟨a0, a1, a2, i0, i1, i2⟩ := hTM
      obtain ⟨ii, hi, hz0, hz1, hz2⟩ := info_parts infoS
      go_wp2_with (at_make; refine wpList_make_full _ rfl _ _ 28 rfl wc.heap.size 9 ii (.string ByteArray.empty) 1 Yba.underlying28 hi hz0 hz1 _ _ _ _ nt rfl rfl rfl rfl (by rw [hz2]; omega) (by unfold maxLen; omega) (Nat.le_refl _) ?_)
      intro w5 hown5 hgrow5
      obtain ⟨cur, hcur, hcs, hcap⟩ := own_block hown5
      have hb5 : Below wc.heap.size wc w5 := ⟨hgrow5.os, hgrow5.tape, hgrow5.output, hgrow5.size, fun i hi => hgrow5.block i hi (by simp)⟩
      have hg5 : wc.heap.size < w5.heap.size := (Array.getElem?_eq_some_iff.1 hcur).1
      clear hown5 hgrow5
      have HP : Hid (0 < (tags.map Value.string).length → (some (⟨wc.heap.size, 0, none⟩ : Addr)) = some ⟨wc.heap.size, 0, none⟩ ∧ ∃ ad, ta = some ad ∧ ∀ j v, (tags.map Value.string)[j]? = some v → w5.cell? (ad.add j) = some v) := by
        intro h0
        refine ⟨rfl, ?_⟩
        rcases Rt.below (HB3.out.trans (hb5.mono HB3.out.size)) with hnil | ⟨b, off, e, hc⟩
        · rw [hnil] at h0; simp at h0
        · refine ⟨_, e, fun j v hv => ?_⟩
          rw [List.getElem?_map] at hv
          by_cases hj : j < tags.length
          · rw [List.getElem?_eq_getElem hj] at hv
            cases hv
            have hcj := hc j hj
            by_cases h0 : j = 0
            · subst h0; simpa [Addr.add] using hcj
            · simpa [Addr.add, h0] using hcj
          · rw [List.getElem?_eq_none (by omega)] at hv; cases hv
      have HL : Hid ((tags.map Value.string).length = Nat.min nt nt) := by
        have : (tags.map Value.string).length = Nat.min nt nt := by rw [List.length_map, Et.out]; exact (Nat.min_self _).symm
        exact this
      have HC5 : Hid (w5.heap[wc.heap.size]? = some (.cells cur.toList.toArray 9 (0, 0))) := hcur
      have HFit : Hid (0 + (tags.map Value.string).length ≤ cur.toList.length) := by
        have : 0 + (tags.map Value.string).length ≤ cur.toList.length := by rw [List.length_map, Et.out]; simpa using hcs
        exact this
      have HB5 : Hid (Below wc.heap.size wc w5) := hb5
      clear hcur hb5 hcs
      go_wp2_with (refine wpList_copy_splice rfl (.tmp 74) (.tmp 75) 28 28 rfl 9 Yba.underlying28 infoT _ _ _ _ _ _ rfl rfl wc.heap.size 0 cur.toList 9 HC5.out (tags.map Value.string) HL.out HP.out HFit.out oneS wc.heap.size wc HB5.out (Nat.le_refl _) ?_)
      intro w6 hrow6 hb6
      have HR6 : Hid (Row w6 (some ⟨wc.heap.size, 0, none⟩) tags) := by
        have : Row w6 (some ⟨wc.heap.size, 0, none⟩) tags := Or.inr ⟨_, _, rfl, fun i hi => by
          rw [cell_of_row w6 wc.heap.size (0 + i) _ _ _ hrow6.out]
          exact splice_at _ _ i hi⟩
        exact this
      have hla : ab < wc.heap.size := by omega
      have hli : ab + 1 < wc.heap.size := by omega
      replace a0 := (hb6.cell hla).trans a0
      replace a1 := (hb6.cell hla).trans a1
      replace a2 := (hb6.cell hla).trans a2
      replace i0 := (hb6.cell hli).trans i0
      replace i1 := (hb6.cell hli).trans i1
      replace i2 := (hb6.cell hli).trans i2
      have h6 : wc.heap.size < w6.heap.size := (Array.getElem?_eq_some_iff.1 hrow6.out).1
      have HB6 : Hid (Below w.heap.size w w6) := HB3.out.trans (hb6.mono HB3.out.size)
      have HX6 : Hid (MapIs w6 xb np (preTo pre np)) := HX.out.below hb6 hxl
      have HM6 : Hid ((m0 = none ∧ ∀ s, preTo pre np s = none) ∨ (m0 = some (xb + 1) ∧ MapIs w6 (xb + 1) np (preTo pre np))) := by
        have : (m0 = none ∧ ∀ s, preTo pre np s = none) ∨ (m0 = some (xb + 1) ∧ MapIs w6 (xb + 1) np (preTo pre np)) := HM0.out.elim Or.inl (fun h => Or.inr ⟨h.1, h.2.below hb6 h.2.lt⟩)
        exact this
      have hgw : w.heap.size ≤ wc.heap.size := HB3.out.size
      clear hb6 hrow6 HB5 HFit HC5 HL HP HX HM0 HB3 hg5 hi hz0 hz1 hz2 hcap
      generalize wc.heap.size = g at *
      have hax : ab < xb := by omega
      generalize ab + 1 = ib at *
      have k1 : ab < w6.heap.size := by omega
      have k2 : ib < w6.heap.size := by omega
      have k3 : ab < w6.heap.size + 1 := by omega
      have k4 : ib < w6.heap.size + 1 := by omega
      have k5 : ab ≠ w6.heap.size := by omega
      have k6 : ib ≠ w6.heap.size := by omega
      have k7 : ab ≠ w6.heap.size + 1 := by omega
      have k8 : ib ≠ w6.heap.size + 1 := by omega
      have HGX : Hid (xb + 1 < g ∨ (m0 = none ∧ xb < g)) := by
        have : xb + 1 < g ∨ (m0 = none ∧ xb < g) := by
          cases hm : m0 with
          | none => exact Or.inr ⟨rfl, hxl⟩
          | some b => have := HML.out b hm; exact Or.inl (by omega)
        exact this
      have HTM : Hid (TM w6 ab ib aw ae iw ie) := ⟨a0, a1, a2, i0, i1, i2⟩
      go_wp2_with fail
      refine Calls.mono (admit_here w w6 ab ib g xb nt np m0 seq _ aw ae iw ie counted wide tags pre r0 r1 w0 w1 Et.out (by omega) (by omega) St.out HR6.out HX6.out HM6.out HTM.out HB6.out h6 HGX.out hsw hax hs2) ?_
      rintro r w9 ⟨rfl, hA⟩
      rw [HSM.out] at hA
      have HA : Hid (AFT w9 w w6.heap.size (w6.heap.size + 1 + 1) ab ib g xb nt np seq aw ae iw ie counted wide (counted && same) tags pre) := hA
      have hal : ab < xb := hax
      have hil : ib < xb := hs2
      clear hA a0 a1 a2 i0 i1 i2 k1 k2 k3 k4 k5 k6 k7 k8 HGX HTM HML HSM HX6 HM6 HB6 HR6 h6 hla hli hs1 hs2 hax
      generalize w6.heap.size = eb at *
      go_upto_region 22 with fail
      go_cut [24] (fun v wd => v = .bool (counted && same) ∧ wd = w9)
      case first =>
        cases counted
        all_goals
          go_wp2_with fail
          go_meet
          exact ⟨rfl, rfl⟩
      case rest =>
        obtain ⟨rfl, hwd⟩ := hcut
        subst hwd
        generalize (counted && same) = on at *
        rename World => w9
        go_upto_if 99 with fail
        go_cut [99] (fun v we => v = .bool on ∧ (∃ N, N ≤ 1000000 ∧ MapIs we xb N (aft on (preTo pre np) tags)) ∧ w9.grownBy we (some xb))
        case first =>
          as_aux_lemma =>
          cases on with
          | false =>
            go_wp2_with fail
            go_meet
            exact ⟨rfl, ⟨np, by omega, HA.out.x.congr (fun s => by simp [aft])⟩, World.grownBy.refl _ _⟩
          | true =>
            have HX : Hid (MapIs w9 xb np (preTo pre np)) := HA.out.x
            have HB : Hid (Below w.heap.size w w9) := HA.out.below
            clear HA
            go_wp2_with fail
            go_loopw [102] (fun i wr => ∃ k : Nat, k ≤ nt ∧ i = .int .i64 k ∧ MapIs wr xb (np + k) (incTo (preTo pre np) tags k) ∧ w9.grownBy wr (some xb)) (fun i _ => nt - (intOf i).toNat)
            case atStart => exact ⟨0, Nat.zero_le _, rfl, HX.out.congr (incTo_zero _ _), World.grownBy.refl _ _⟩
            case round =>
              clear HX
              obtain ⟨k, hk, rfl, hM, hg⟩ := hrel
              by_cases hlt : k < nt
              · have hli : k < tags.length := by rw [Et.out]; exact hlt
                have hbw : Below w.heap.size w wr := HB.out.grown hg HB.out.size (fun q hq => by cases hq; exact hsw)
                rcases Rt.below hbw with hnil | ⟨b, off, rfl, hcells⟩
                · rw [hnil] at hli; simp at hli
                · have hck := hcells k hli
                  have HCE : Hid (∀ (i : Nat) (hi : i < tags.length), wr.cell? ⟨b, off + i, none⟩ = some (.string tags[i])) := hcells
                  have HK : Hid (keyOf Yba.prog 9 (.string tags[k]) = some (.string tags[k].data.toList)) := keyIs (St.out _ (List.getElem_mem hli))
                  have HD : Hid (hasL (tags.take k) tags[k].data.toList = true → ∀ s, incTo (preTo pre np) tags k s = incTo (preTo pre np) tags (k + 1) s) := fun e => incTo_dup hli e
                  have HN : Hid (hasL (tags.take k) tags[k].data.toList = false → ∀ c, ((preTo pre np) tags[k].data.toList).getD 0 = c → ∀ s, upd (incTo (preTo pre np) tags k) tags[k].data.toList (some (c + 1)) s = incTo (preTo pre np) tags (k + 1) s) := fun e c hc => incTo_new hli e hc
                  have HAt : Hid (hasL (tags.take k) tags[k].data.toList = false → incTo (preTo pre np) tags k tags[k].data.toList = preTo pre np tags[k].data.toList) := fun e => incTo_at e
                  have hbd := preTo_bound pre np tags[k].data.toList
                  have HM : Hid (MapIs wr xb (np + k) (incTo (preTo pre np) tags k)) := hM
                  have HG : Hid (w9.grownBy wr (some xb)) := hg
                  clear hcells hbw hM hg
                  generalize tags[k] = x at *
                  go_wp2_with fail
                  go_loop [27, 28] (fun d j => ∃ i : Nat, i ≤ k ∧ j = .int .i64 i ∧ d = .bool false ∧ hasL (tags.take i) x.data.toList = false) (fun _ j => k - (intOf j).toNat)
                  case atStart => exact ⟨0, Nat.zero_le _, rfl, rfl, rfl⟩
                  case round =>
                    obtain ⟨i, hi, rfl, rfl, hno⟩ := hrel
                    by_cases hik : i < k
                    · have hil2 : i < tags.length := by omega
                      have hci := HCE.out i hil2
                      have hst := hasL_step tags i hil2 x.data.toList
                      have hhit := hasL_hit tags i k hil2 hik x.data.toList
                      generalize tags[i] = y at *
                      have hyx : (y.toList == x.toList) = (y.data.toList == x.data.toList) := by rw [ByteArray.toList_eq, ByteArray.toList_eq]
                      cases he : (y.toList == x.toList) with
                      | true =>
                        have HDUP : Hid (∀ s, incTo (preTo pre np) tags k s = incTo (preTo pre np) tags (k + 1) s) := HD.out (hhit (hyx.symm.trans he))
                        clear hst hhit hyx hno HD HN HAt
                        go_wp2_with fail
                        go_roundw
                        case rel => exact ⟨k + 1, by omega, by go_num, (HM.out.congr HDUP.out).mono (by omega), HG.out⟩
                        case measure => simp [intOf]; omega
                      | false =>
                        have HNO : Hid (hasL (tags.take (i + 1)) x.data.toList = false) := by
                          have : hasL (tags.take (i + 1)) x.data.toList = false := by rw [hst, hno, hyx.symm.trans he]; rfl
                          exact this
                        clear hst hhit hyx hno
                        go_wp2_with fail
                        go_round
                        case rel => exact ⟨i + 1, by omega, by go_num, rfl, HNO.out⟩
                        case measure => simp [intOf]; omega
                    · obtain rfl : i = k := by omega
                      have HA2 : Hid (incTo (preTo pre np) tags i x.data.toList = preTo pre np x.data.toList) := HAt.out hno
                      have HN2 : Hid (∀ c, ((preTo pre np) x.data.toList).getD 0 = c → ∀ s, upd (incTo (preTo pre np) tags i) x.data.toList (some (c + 1)) s = incTo (preTo pre np) tags (i + 1) s) := HN.out hno
                      obtain ⟨D, hown, hsees⟩ := HM.out
                      have HS : Hid (Sees D (incTo (preTo pre np) tags i)) := hsees
                      clear hsees hno HD HN HAt HM
                      go_wp2_with (at_lookup; refine wpList_lookup_own_int _ rfl (.tmp 120) (.tmp 121) 24 rfl 9 3 .i64 law Yba.underlying24 Yba.underlying3 (zeroE _) xb (np + i) D rfl hown _ _ rfl HK.out ?_)
                      intro c hat hwc
                      have hgd : ((preTo pre np) x.data.toList).getD 0 = c := by
                        rw [HS.out.1, HA2.out] at hat
                        exact val_zero hat
                      have HGG : Hid (∀ s, upd (incTo (preTo pre np) tags i) x.data.toList (some (c + 1)) s = incTo (preTo pre np) tags (i + 1) s) := HN2.out c hgd
                      rw [hgd] at hbd
                      clear hgd hat hwc HN2 HA2
                      go_wp2_with (at_mapUpdate; refine wpList_mapUpdate_own _ rfl (.tmp 120) (.tmp 121) (.tmp 123) 24 rfl 9 3 law Yba.underlying24 _ xb (np + i) D rfl hown (by unfold maxLen; omega) _ _ _ rfl rfl HK.out _ [] (plainElem_int Yba.underlying3 (WalkArith.wf_i64 (by omega))) ?_)
                      intro u3 hown3 hgrow3
                      have HM3 : Hid (MapIs u3 xb (np + i + 1) (incTo (preTo pre np) tags (i + 1))) := ⟨_, hown3, (HS.out.put hown.isMap _ _).congr HGG.out⟩
                      have HG3 : Hid (w9.grownBy u3 (some xb)) := World.grownBy.trans HG.out hgrow3
                      clear hown3 hgrow3 hown HS
                      go_wp2_with fail
                      go_roundw
                      case rel => exact ⟨i + 1, by omega, by go_num, HM3.out, HG3.out⟩
                      case measure => simp [intOf]; omega
              · obtain rfl : k = nt := by omega
                have HM : Hid (MapIs wr xb (np + k) (incTo (preTo pre np) tags k)) := hM
                have HG : Hid (w9.grownBy wr (some xb)) := hg
                clear hM hg
                go_wp2_with fail
                go_meet
                exact ⟨rfl, ⟨np + k, by omega, HM.out.congr (fun s => by simp [aft, Et.out])⟩, HG.out⟩
        case rest =>
          obtain ⟨rfl, ⟨N, hN, hX⟩, hg⟩ := hcut
          rename World => wB
          have hk : ∀ (a : Addr) (v : Value), w9.cell? a = some v → wB.cell? a = some v := fun a v h => hg.cell h (fun e => HA.out.x.ne h (Option.some.inj e))
          have hBw : Below w.heap.size w wB := HA.out.below.grown hg HA.out.below.size (fun q hq => by cases hq; exact hsw)
          obtain ⟨DX, hownX, hseesX⟩ := hX
          have cX : Canon DX := hownX.canon law
          obtain ⟨m1, hm1, htag⟩ := HA.out.tag
          have HRT : Hid (∀ wX, Below wB.heap.size wB wX → Rd wX 25 m1 (aft on (preTo pre np) tags) (Maps.size DX)) := by
            have : ∀ wX, Below wB.heap.size wB wX → Rd wX 25 m1 (aft on (preTo pre np) tags) (Maps.size DX) := by
              intro wX hbX
              rcases htag with ⟨rfl, hn⟩ | ⟨b, rfl, hbx, hMb⟩
              · rw [size_none cX hseesX hn]
                exact Rd.nil hn
              · have hMB := hMb.kept hg (fun e => hbx (Option.some.inj e))
                obtain ⟨DT, hownT, hseesT⟩ := hMB.below hbX hMB.lt
                rw [hseesX.same hseesT cX (hownT.canon law)]
                exact Rd.some Yba.underlying25 hownT hseesT
            exact this
          have HRX : Hid (∀ wX, Below wB.heap.size wB wX → Rd wX 24 (some xb) (aft on (preTo pre np) tags) (Maps.size DX)) := by
            have : ∀ wX, Below wB.heap.size wB wX → Rd wX 24 (some xb) (aft on (preTo pre np) tags) (Maps.size DX) := by
              intro wX hbX
              have hMX : MapIs wB xb N (aft on (preTo pre np) tags) := ⟨DX, hownX, hseesX⟩
              obtain ⟨D', ho', hs'⟩ := hMX.below hbX hMX.lt
              rw [hseesX.same hs' cX (ho'.canon law)]
              exact Rd.some Yba.underlying24 ho' hs'
            exact this
          have hwd := hk _ _ (HA.out.wd DX cX hseesX)
          have HRow : Hid (Row wB (some ⟨g, 0, none⟩) tags) := by
            have : Row wB (some ⟨g, 0, none⟩) tags := by
              rcases HA.out.row with h | ⟨b, off, e, hc⟩
              · exact Or.inl h
              · exact Or.inr ⟨b, off, e, fun i hi => hk _ _ (hc i hi)⟩
            exact this
          have HRt : Hid (Row wB ta tags) := Rt.below hBw
          have HRp : Hid (Row wB pa pre) := Rp.below hBw
          have HBw : Hid (Below w.heap.size w wB) := hBw
          have hzb : Maps.size DX ≤ N := hownX.size_le
          have e0 := hk _ _ HA.out.e0
          have e1 := hk _ _ HA.out.e1
          have e2 := hk _ _ HA.out.e2
          have e4 := hk _ _ HA.out.e4
          have e5 := hk _ _ HA.out.e5
          have e6 := hk _ _ HA.out.e6
          have e7 := hk _ _ HA.out.e7
          have s0 := hk _ _ HA.out.s0
          have c0 := hk _ _ HA.out.c0
          have c1 := hk _ _ HA.out.c1
          have c2 := hk _ _ HA.out.c2
          have c3 := hk _ _ HA.out.c3
          have c4 := hk _ _ HA.out.c4
          have c5 := hk _ _ hm1
          have t0 := hk _ _ HA.out.tm.a0
          have t1 := hk _ _ HA.out.tm.a1
          have t2 := hk _ _ HA.out.tm.a2
          have i0 := hk _ _ HA.out.tm.i0
          have i1 := hk _ _ HA.out.tm.i1
          have i2 := hk _ _ HA.out.tm.i2
          generalize Maps.size DX = Z at *
          clear HA hk hg hownX hseesX cX htag hm1 hBw
          have hps := ptr_same
          go_upto_region 40 with fail
          clear hps
          go_cut [183] (fun v wd => v = .bool false ∧ Below wB.heap.size wB wd)
          case first =>
            as_aux_lemma =>
            have hs1 := sameT_self aw ae
            have hs2 := sameT_self iw ie
            have hcc0 : (counted != counted) = false := by simp
            have l0 : eb < wB.heap.size := World.block_lt_of_cell? _ _ e0
            have d00 : eb ≠ wB.heap.size := by omega
            have d01 : eb ≠ wB.heap.size + 1 := by omega
            have d02 : eb ≠ wB.heap.size + 1 + 1 := by omega
            have d03 : eb ≠ wB.heap.size + 1 + 1 + 1 := by omega
            have b00 : eb < wB.heap.size + 1 := by omega
            have b01 : eb < wB.heap.size + 1 + 1 := by omega
            have b02 : eb < wB.heap.size + 1 + 1 + 1 := by omega
            have l1 : ab < wB.heap.size := World.block_lt_of_cell? _ _ t0
            have d10 : ab ≠ wB.heap.size := by omega
            have d11 : ab ≠ wB.heap.size + 1 := by omega
            have d12 : ab ≠ wB.heap.size + 1 + 1 := by omega
            have d13 : ab ≠ wB.heap.size + 1 + 1 + 1 := by omega
            have b10 : ab < wB.heap.size + 1 := by omega
            have b11 : ab < wB.heap.size + 1 + 1 := by omega
            have b12 : ab < wB.heap.size + 1 + 1 + 1 := by omega
            have l2 : ib < wB.heap.size := World.block_lt_of_cell? _ _ i0
            have d20 : ib ≠ wB.heap.size := by omega
            have d21 : ib ≠ wB.heap.size + 1 := by omega
            have d22 : ib ≠ wB.heap.size + 1 + 1 := by omega
            have d23 : ib ≠ wB.heap.size + 1 + 1 + 1 := by omega
            have b20 : ib < wB.heap.size + 1 := by omega
            have b21 : ib < wB.heap.size + 1 + 1 := by omega
            have b22 : ib < wB.heap.size + 1 + 1 + 1 := by omega
            have l3 : eb + 1 + 1 < wB.heap.size := World.block_lt_of_cell? _ _ c1
            have d30 : eb + 1 + 1 ≠ wB.heap.size := by omega
            have d31 : eb + 1 + 1 ≠ wB.heap.size + 1 := by omega
            have d32 : eb + 1 + 1 ≠ wB.heap.size + 1 + 1 := by omega
            have d33 : eb + 1 + 1 ≠ wB.heap.size + 1 + 1 + 1 := by omega
            have b30 : eb + 1 + 1 < wB.heap.size + 1 := by omega
            have b31 : eb + 1 + 1 < wB.heap.size + 1 + 1 := by omega
            have b32 : eb + 1 + 1 < wB.heap.size + 1 + 1 + 1 := by omega
            clear HRT HRX HRow HRt HRp HBw c0 c5 e4 e5 e6 e7 s0 hwd Rt Rp Et Ep St Sp hN hzb mt mp h1 h2 hsw hxl hgw hal hil
            have HKEEP : Hid (∀ w', Below wB.heap.size wB w' → w'.cell? ⟨eb, 0, none⟩ = some (.int .u64 aw) ∧ w'.cell? ⟨eb, 1, none⟩ = some (.int .i64 ae) ∧ w'.cell? ⟨eb, 2, none⟩ = some (.pointer none) ∧ w'.cell? ⟨ab, 0, none⟩ = some (.int .u64 aw) ∧ w'.cell? ⟨ab, 1, none⟩ = some (.int .i64 ae) ∧ w'.cell? ⟨ab, 2, none⟩ = some (.pointer none) ∧ w'.cell? ⟨eb + 1 + 1, 1, none⟩ = some (.bool counted) ∧ w'.cell? ⟨eb + 1 + 1, 2, none⟩ = some (.int .u64 iw) ∧ w'.cell? ⟨eb + 1 + 1, 3, none⟩ = some (.int .i64 ie) ∧ w'.cell? ⟨eb + 1 + 1, 4, none⟩ = some (.pointer none) ∧ w'.cell? ⟨ib, 0, none⟩ = some (.int .u64 iw) ∧ w'.cell? ⟨ib, 1, none⟩ = some (.int .i64 ie) ∧ w'.cell? ⟨ib, 2, none⟩ = some (.pointer none)) := by
              have : ∀ w', Below wB.heap.size wB w' → w'.cell? ⟨eb, 0, none⟩ = some (.int .u64 aw) ∧ w'.cell? ⟨eb, 1, none⟩ = some (.int .i64 ae) ∧ w'.cell? ⟨eb, 2, none⟩ = some (.pointer none) ∧ w'.cell? ⟨ab, 0, none⟩ = some (.int .u64 aw) ∧ w'.cell? ⟨ab, 1, none⟩ = some (.int .i64 ae) ∧ w'.cell? ⟨ab, 2, none⟩ = some (.pointer none) ∧ w'.cell? ⟨eb + 1 + 1, 1, none⟩ = some (.bool counted) ∧ w'.cell? ⟨eb + 1 + 1, 2, none⟩ = some (.int .u64 iw) ∧ w'.cell? ⟨eb + 1 + 1, 3, none⟩ = some (.int .i64 ie) ∧ w'.cell? ⟨eb + 1 + 1, 4, none⟩ = some (.pointer none) ∧ w'.cell? ⟨ib, 0, none⟩ = some (.int .u64 iw) ∧ w'.cell? ⟨ib, 1, none⟩ = some (.int .i64 ie) ∧ w'.cell? ⟨ib, 2, none⟩ = some (.pointer none) := fun w' hb => ⟨(hb.cell l0).trans e0, (hb.cell l0).trans e1, (hb.cell l0).trans e2, (hb.cell l1).trans t0, (hb.cell l1).trans t1, (hb.cell l1).trans t2, (hb.cell l3).trans c1, (hb.cell l3).trans c2, (hb.cell l3).trans c3, (hb.cell l3).trans c4, (hb.cell l2).trans i0, (hb.cell l2).trans i1, (hb.cell l2).trans i2⟩
              exact this
            go_region_held3 (fun w' => w'.cell? ⟨eb, 0, none⟩ = some (.int .u64 aw) ∧ w'.cell? ⟨eb, 1, none⟩ = some (.int .i64 ae) ∧ w'.cell? ⟨eb, 2, none⟩ = some (.pointer none) ∧ w'.cell? ⟨ab, 0, none⟩ = some (.int .u64 aw) ∧ w'.cell? ⟨ab, 1, none⟩ = some (.int .i64 ae) ∧ w'.cell? ⟨ab, 2, none⟩ = some (.pointer none) ∧ w'.cell? ⟨eb + 1 + 1, 1, none⟩ = some (.bool counted) ∧ w'.cell? ⟨eb + 1 + 1, 2, none⟩ = some (.int .u64 iw) ∧ w'.cell? ⟨eb + 1 + 1, 3, none⟩ = some (.int .i64 ie) ∧ w'.cell? ⟨eb + 1 + 1, 4, none⟩ = some (.pointer none) ∧ w'.cell? ⟨ib, 0, none⟩ = some (.int .u64 iw) ∧ w'.cell? ⟨ib, 1, none⟩ = some (.int .i64 ie) ∧ w'.cell? ⟨ib, 2, none⟩ = some (.pointer none)) ((refine HKEEP.out _ ?_; repeat (first | exact Below.refl _ _ | refine Below.drew ?_ | (refine Below.alloc ?_ (by first | (simp; done) | (simp; omega)) _))))
              ((go_at_call 9; refine Calls.mono (equal_any _ _ _ _ _ ?_ ?_ ?_ ?_) ?_; assumption; assumption; assumption; assumption; rintro r u7 ⟨rfl, rfl⟩))
            all_goals
              go_wp2_with fail
              go_meet
              exact ⟨rfl, by repeat (first | exact Below.refl _ _ | refine Below.drew ?_ | (refine Below.alloc ?_ (by first | (simp; done) | (simp; omega)) _))⟩
          case rest =>
            obtain ⟨rfl, hbd⟩ := hcut
            have HBD : Hid (Below wB.heap.size wB wc) := hbd
            have f6 := (hbd.cell (World.block_lt_of_cell? _ _ e6)).trans e6
            have f5 := (hbd.cell (World.block_lt_of_cell? _ _ c5)).trans c5
            have HE6 : Hid (wB.cell? ⟨eb, 6, none⟩ = some (.slice (some ⟨g, 0, none⟩) nt nt)) := e6
            have HC5 : Hid (wB.cell? ⟨eb + 1 + 1, 5, none⟩ = some (.map m1)) := c5
            have HC6 : Hid (wB.cell? ⟨eb + 1 + 1, 6, none⟩ = some (.bool (wide || (on && decide (8 < Z))))) := hwd
            clear e0 e1 e2 e4 e5 e6 e7 s0 c0 c1 c2 c3 c4 c5 t0 t1 t2 i0 i1 i2 hwd hbd
            go_wp2_with fail
            clear f5 f6
            go_loopw [194] (fun i wq => ∃ k : Nat, k ≤ nt ∧ i = .int .i64 k ∧ Below wB.heap.size wB wq) (fun i _ => nt - (intOf i).toNat)
            case atStart => exact ⟨0, Nat.zero_le _, rfl, HBD.out⟩
            case round =>
              obtain ⟨k, hk, rfl, hbq⟩ := hrel
              have g6 : wr.cell? ⟨eb, 6, none⟩ = some (.slice (some ⟨g, 0, none⟩) nt nt) := (hbq.cell (World.block_lt_of_cell? _ _ HE6.out)).trans HE6.out
              by_cases hlt : k < nt
              · have hli : k < tags.length := by rw [Et.out]; exact hlt
                have HBQ : Hid (Below wB.heap.size wB wr) := hbq
                rcases HRow.out.below hbq with hnil | ⟨b2, off2, e2, hcells2⟩
                · rw [hnil] at hli; simp at hli
                · obtain ⟨rfl, rfl⟩ : g = b2 ∧ 0 = off2 := by
                    simp only [Option.some.injEq, Addr.mk.injEq] at e2
                    exact ⟨e2.1, e2.2.1⟩
                  have hcg := hcells2 k hli
                  rcases HRt.out.below hbq with hnil | ⟨b, off, rfl, hcells⟩
                  · rw [hnil] at hli; simp at hli
                  · have hck := hcells k hli
                    have i1 : (k : Int) < (nt : Int) := by omega
                    clear hcells hcells2 hbq e2
                    generalize tags[k] = x at *
                    rw [Nat.zero_add] at hcg
                    go_wp2_with fail
                    go_quiet (fail)
                    go_wp2
                    go_roundw
                    case rel => exact ⟨k + 1, by omega, by go_num, below_drawn HBQ.out _⟩
                    case measure => simp [intOf]; omega
              · have HBQ : Hid (Below wB.heap.size wB wr) := hbq
                have g5 : wr.cell? ⟨eb + 1 + 1, 5, none⟩ = some (.map m1) := (hbq.cell (World.block_lt_of_cell? _ _ HC5.out)).trans HC5.out
                have hl1 := (HRT.out wr hbq).1
                have hl2 := (HRX.out wr hbq).1
                clear hbq g6
                go_wp2_with fail
                clear g5 hl1 hl2
                go_loopw [220] (fun i wq => ∃ k : Nat, k ≤ np ∧ i = .int .i64 k ∧ Below wB.heap.size wB wq) (fun i _ => np - (intOf i).toNat)
                case atStart => exact ⟨0, Nat.zero_le _, rfl, HBQ.out⟩
                case round =>
                  obtain ⟨k, hk, rfl, hbq⟩ := hrel
                  have g5 : wr.cell? ⟨eb + 1 + 1, 5, none⟩ = some (.map m1) := (hbq.cell (World.block_lt_of_cell? _ _ HC5.out)).trans HC5.out
                  by_cases hlt : k < np
                  · have hli : k < pre.length := by rw [Ep.out]; exact hlt
                    rcases HRp.out.below hbq with hnil | ⟨b, off, rfl, hcells⟩
                    · rw [hnil] at hli; simp at hli
                    · have hck := hcells k hli
                      have hx := Sp.out _ (List.getElem_mem hli)
                      have HBQ : Hid (Below wB.heap.size wB wr) := hbq
                      have hr1 : ∀ n, Sem.run Yba.prog (Instr.lookup 25 (.map m1) (.string pre[k]) false) (wr.drewN n) = .ok (.int .i64 ((aft on (preTo pre np) tags pre[k].data.toList).getD 0)) (wr.drewN n) := fun n => (HRT.out _ (below_drawn hbq n)).2 _ hx
                      have hr2 : ∀ n, Sem.run Yba.prog (Instr.lookup 24 (.map (some xb)) (.string pre[k]) false) (wr.drewN n) = .ok (.int .i64 ((aft on (preTo pre np) tags pre[k].data.toList).getD 0)) (wr.drewN n) := fun n => (HRX.out _ (below_drawn hbq n)).2 _ hx
                      generalize (aft on (preTo pre np) tags pre[k].data.toList).getD 0 = c at *
                      have i1 : (k : Int) < (np : Int) := by omega
                      clear hcells hbq hx
                      generalize pre[k] = x at *
                      go_wp2_with fail
                      go_quiet (fail)
                      go_wp2
                      go_roundw
                      case rel => exact ⟨k + 1, by omega, by go_num, below_drawn HBQ.out _⟩
                      case measure => simp [intOf]; omega
                  · have HBQ : Hid (Below wB.heap.size wB wr) := hbq
                    go_wp2_with fail
                    go_loopw [237] (fun i wq => ∃ k : Nat, k ≤ nt ∧ i = .int .i64 k ∧ Below wB.heap.size wB wq) (fun i _ => nt - (intOf i).toNat)
                    case atStart => exact ⟨0, Nat.zero_le _, rfl, HBQ.out⟩
                    case round =>
                      obtain ⟨k, hk, rfl, hbq⟩ := hrel
                      have g5 : wr.cell? ⟨eb + 1 + 1, 5, none⟩ = some (.map m1) := (hbq.cell (World.block_lt_of_cell? _ _ HC5.out)).trans HC5.out
                      by_cases hlt : k < nt
                      · have hli : k < tags.length := by rw [Et.out]; exact hlt
                        rcases HRt.out.below hbq with hnil | ⟨b, off, rfl, hcells⟩
                        · rw [hnil] at hli; simp at hli
                        · have hck := hcells k hli
                          have hx := St.out _ (List.getElem_mem hli)
                          have HBQ : Hid (Below wB.heap.size wB wr) := hbq
                          have hr1 : ∀ n, Sem.run Yba.prog (Instr.lookup 25 (.map m1) (.string tags[k]) false) (wr.drewN n) = .ok (.int .i64 ((aft on (preTo pre np) tags tags[k].data.toList).getD 0)) (wr.drewN n) := fun n => (HRT.out _ (below_drawn hbq n)).2 _ hx
                          have hr2 : ∀ n, Sem.run Yba.prog (Instr.lookup 24 (.map (some xb)) (.string tags[k]) false) (wr.drewN n) = .ok (.int .i64 ((aft on (preTo pre np) tags tags[k].data.toList).getD 0)) (wr.drewN n) := fun n => (HRX.out _ (below_drawn hbq n)).2 _ hx
                          generalize (aft on (preTo pre np) tags tags[k].data.toList).getD 0 = c at *
                          have i1 : (k : Int) < (nt : Int) := by omega
                          clear hcells hbq hx
                          generalize tags[k] = x at *
                          go_wp2_with fail
                          go_quiet (fail)
                          go_wp2
                          go_roundw
                          case rel => exact ⟨k + 1, by omega, by go_num, below_drawn HBQ.out _⟩
                          case measure => simp [intOf]; omega
                      · have HBQ : Hid (Below wB.heap.size wB wr) := hbq
                        have g6 : wr.cell? ⟨eb + 1 + 1, 6, none⟩ = some (.bool (wide || (on && decide (8 < Z)))) := (hbq.cell (World.block_lt_of_cell? _ _ HC6.out)).trans HC6.out
                        have hl2 := (HRX.out wr hbq).1
                        have HBW : Hid (Below w.heap.size w wr) := HBw.out.trans (hbq.mono HBw.out.size)
                        clear hbq g5
                        cases wide with
                        | true =>
                          go_wp2_with fail
                          go_ret
                          exact ⟨rfl, HBW.out⟩
                        | false =>
                          cases on with
                          | false =>
                            go_wp2_with fail
                            go_ret
                            exact ⟨rfl, HBW.out⟩
                          | true =>
                            simp only [Bool.false_or, Bool.true_and] at g6
                            by_cases hZ : 8 < Z
                            · have hZ2 : (8 : Int) < (Z : Int) := by omega
                              rw [decide_eq_true hZ] at g6
                              go_wp2_with fail
                              go_ret
                              exact ⟨rfl, HBW.out⟩
                            · have hZ2 : ¬ (8 : Int) < (Z : Int) := by omega
                              rw [decide_eq_false hZ] at g6
                              go_wp2_with fail
                              go_ret
                              exact ⟨rfl, HBW.out⟩
end Go.Proofs.Ybulkblnk
