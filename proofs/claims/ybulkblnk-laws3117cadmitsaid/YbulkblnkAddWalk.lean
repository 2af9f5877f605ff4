/-
  THE WALK of tagCount.add.
-/
import Derived.Test.YbulkblnkAdd
import Derived.OpenShut
namespace Go.Proofs.Ybulkblnk
open Go.RowKit Go.Maps

theorem map_nil (w : World) : (binOp .eql 25 (.map none) (.map none)).run Yba.prog w = .ok (.bool true) w := by kernel_rfl
theorem map_some (b : Nat) (w : World) : (binOp .eql 25 (.map (some b)) (.map none)).run Yba.prog w = .ok (.bool false) w := by kernel_rfl

set_option maxRecDepth 100000 in
set_option maxHeartbeats 1000000 in
theorem add_tags (qb eb : Nat) (m0 : Option Nat) (ta : Option Addr) (tags : List ByteArray) (tc n : Nat) (f : List UInt8 → Option Int) (w : World) (hn : n ≤ 1000000) (hl : tags.length ≤ 1000000) (htc : tags.length ≤ tc) (hsz : ∀ s ∈ tags, s.size ≤ maxLen)
    (hf : ∀ s, 0 ≤ (f s).getD 0 ∧ (f s).getD 0 ≤ 1000000)
    (hcell : w.cell? ⟨eb, 6, none⟩ = some (.slice ta tags.length tc)) (heq : eb ≠ qb) (hem : some eb ≠ m0) (R : Row w ta tags) (hrq : ∀ b off, ta = some ⟨b, off, none⟩ → b ≠ qb ∧ some b ≠ m0)
    (hq : qb < w.heap.size) (hz : w.frozen? ⟨qb, 5, none⟩ = false) (T : TagAt w qb n f m0 w.heap.size) :
    Calls Yba.prog 22 #[.pointer (some ⟨qb, 5, none⟩), .pointer (some ⟨eb, 0, none⟩)] w fun e w' => e = .returned (.tuple #[]) ∧ TagAt w' qb (n + tags.length) (incTo f tags tags.length) m0 w.heap.size ∧ Fr qb m0 w w' := by
  have hmm := @run_makeMap Yba.prog
  have hb0 := map_nil
  have hb1 := map_some
  go_enter Yba.func22, Yba.ntmps22
  go_wp2
  go_loopw [11] (fun i wr => ∃ k : Nat, k ≤ tags.length ∧ i = .int .i64 k ∧ TagAt wr qb (n + k) (incTo f tags k) m0 w.heap.size ∧ Fr qb m0 w wr) (fun i _ => tags.length - (intOf i).toNat)
  case atStart => exact ⟨0, Nat.zero_le _, rfl, T.congr (incTo_zero f tags), Fr.refl _ _ _⟩
  case round =>
    obtain ⟨k, hk, rfl, hT, hF⟩ := hrel
    have hec : wr.cell? ⟨eb, 6, none⟩ = some (.slice ta tags.length tc) := hF.cell hcell heq hem
    have hqr : qb < wr.heap.size := Nat.lt_of_lt_of_le hq hF.size
    by_cases hlt : k < tags.length
    · have Rr : Row wr ta tags := by
        rcases R with h | ⟨b, off, e, hc⟩
        · exact Or.inl h
        · exact Or.inr ⟨b, off, e, fun i hi => hF.cell (hc i hi) (hrq b off e).1 (hrq b off e).2⟩
      have Rt := Rr.take k
      rcases Rr with hnil | ⟨b, off, rfl, hcells⟩
      · rw [hnil] at hlt; simp at hlt
      · have hck := hcells k hlt
        have hkc : k ≤ tc := by omega
        have HT : Hid ((tags.take k).length = k) := by
          have : (tags.take k).length = k := by rw [List.length_take]; omega
          exact this
        have HK : Hid (keyOf Yba.prog 9 (.string tags[k]) = some (.string tags[k].data.toList)) := keyIs (hsz _ (List.getElem_mem hlt))
        have HD : Hid (hasL (tags.take k) tags[k].data.toList = true → ∀ s, incTo f tags k s = incTo f tags (k + 1) s) := fun e => incTo_dup hlt e
        have HN : Hid (hasL (tags.take k) tags[k].data.toList = false → ∀ c, (f tags[k].data.toList).getD 0 = c → ∀ s, upd (incTo f tags k) tags[k].data.toList (some (c + 1)) s = incTo f tags (k + 1) s) := fun e c hc => incTo_new hlt e hc
        have HA : Hid (hasL (tags.take k) tags[k].data.toList = false → incTo f tags k tags[k].data.toList = f tags[k].data.toList) := fun e => incTo_at e
        clear hcells
        generalize tags[k] = x at *
        go_wp2_with fail
        refine Calls.mono (contains_at (some ⟨b, off, none⟩) (tags.take k) k tc x _ HT.out (by omega) Rt) ?_
        rintro e w' ⟨rfl, rfl⟩
        rw [hasL_eq]
        cases hd : hasL (tags.take k) x.data.toList with
        | true =>
          have hT2 := hT.congr (HD.out hd)
          clear hd hT
          go_wp2_with fail
          go_roundw
          case rel => exact ⟨k + 1, by omega, by go_num, hT2.mono (by omega), hF⟩
          case measure => simp [intOf]; omega
        | false =>
          have HA2 : Hid (incTo f tags k x.data.toList = f x.data.toList) := HA.out hd
          have HN2 : Hid (∀ c, (f x.data.toList).getD 0 = c → ∀ s, upd (incTo f tags k) x.data.toList (some (c + 1)) s = incTo f tags (k + 1) s) := HN.out hd
          have hfx := hf x.data.toList
          clear hd HA HN HD
          rcases hT with ⟨hc5, hnone⟩ | ⟨mb, hc5, hM, hok⟩
          · have HNo : Hid (∀ s, incTo f tags k s = none) := hnone
            have hz1 : w'.frozen? ⟨qb, 5, none⟩ = false := (hF.frozen 5).trans hz
            clear hnone
            have hne : w'.heap.size ≠ qb := by omega
            have hownS : ((w'.setCell ⟨qb, 5, none⟩ (.map (some w'.heap.size))).alloc (.map #[] 0)).ownsMap Yba.prog 9 (plainElem (H := Unit) Yba.prog 3) w'.heap.size 0 (.map []) := by
              have h := World.ownsMap_made (w'.setCell ⟨qb, 5, none⟩ (.map (some w'.heap.size))) Yba.prog 9 (plainElem (H := Unit) Yba.prog 3)
              simpa using h
            have hc52 : ((w'.setCell ⟨qb, 5, none⟩ (.map (some w'.heap.size))).alloc (.map #[] 0)).cell? ⟨qb, 5, none⟩ = some (.map (some w'.heap.size)) := by
              rw [World.cell?_of_block (heap_alloc_old _ _ (by simpa using hqr))]
              exact World.cell?_setCell_same _ _ _ hc5
            have HC52 : Hid (((w'.setCell ⟨qb, 5, none⟩ (.map (some w'.heap.size))).alloc (.map #[] 0)).cell? ⟨qb, 5, none⟩ = some (.map (some w'.heap.size))) := hc52
            clear hc52
            go_wp2_with (at_lookup; refine wpList_lookup_own_int _ rfl (.tmp 33) (.tmp 34) 25 rfl 9 3 .i64 law Yba.underlying25 Yba.underlying3 (zeroE _) w'.heap.size 0 (.map []) rfl hownS _ _ rfl HK.out ?_)
            intro c hat hwc
            obtain rfl : c = 0 := by
              have h1 : (DataW.lit (.int .i64 0) : DataW Unit) = .lit (.int .i64 c) := hat
              simpa using h1.symm
            clear hat hwc
            go_wp2_with (at_mapUpdate; refine wpList_mapUpdate_own _ rfl (.tmp 33) (.tmp 34) (.tmp 36) 25 rfl 9 3 law Yba.underlying25 _ w'.heap.size 0 (.map []) rfl hownS (by unfold maxLen; omega) _ _ _ rfl rfl HK.out _ [] (plainElem_int Yba.underlying3 (WalkArith.wf_i64 (by omega))) ?_)
            intro w1 hown1 hgrow1
            have hM1 : MapIs w1 w'.heap.size (0 + 1) (incTo f tags (k + 1)) := ⟨_, hown1, ((sees_empty.congr (fun s => (HNo.out s).symm)).put isMap_empty _ _).congr (HN2.out 0 (by rw [← HA2.out, HNo.out]; rfl))⟩
            have hF2 : Fr qb m0 w ((w'.setCell ⟨qb, 5, none⟩ (.map (some w'.heap.size))).alloc (.map #[] 0)) := (hF.set _).alloc (by simpa using hqr) _
            have hF3 : Fr qb m0 w w1 := hF2.turn hgrow1 (by simp; omega) (fun e => hne e.symm) (Or.inr hF.size)
            have hc51 : w1.cell? ⟨qb, 5, none⟩ = some (.map (some w'.heap.size)) := hgrow1.cell HC52.out (by simp; omega)
            have HT1 : Hid (TagAt w1 qb (n + k + 1) (incTo f tags (k + 1)) m0 w.heap.size) := Or.inr ⟨_, hc51, hM1.mono (by omega), Or.inr hF.size⟩
            have HF3 : Hid (Fr qb m0 w w1) := hF3
            clear hown1 hgrow1 hM1 hF2 hF3 hc51 hownS
            go_wp2_with fail
            go_roundw
            case rel => exact ⟨k + 1, by omega, by go_num, HT1.out, HF3.out⟩
            case measure => simp [intOf]; omega
          · obtain ⟨D, hown, hsees⟩ := hM
            have HS : Hid (Sees D (incTo f tags k)) := hsees
            have HNE : Hid (qb ≠ mb) := MapIs.ne (a := ⟨qb, 5, none⟩) ⟨D, hown, hsees⟩ hc5
            clear hsees
            go_wp2_with (at_lookup; refine wpList_lookup_own_int _ rfl (.tmp 33) (.tmp 34) 25 rfl 9 3 .i64 law Yba.underlying25 Yba.underlying3 (zeroE _) mb (n + k) D rfl hown _ _ rfl HK.out ?_)
            intro c hat hwc
            have hgd : (f x.data.toList).getD 0 = c := by
              rw [HS.out.1, HA2.out] at hat
              exact val_zero hat
            have HG : Hid (∀ s, upd (incTo f tags k) x.data.toList (some (c + 1)) s = incTo f tags (k + 1) s) := HN2.out c hgd
            rw [hgd] at hfx
            clear hgd hat hwc HN2 HA2
            go_wp2_with (at_mapUpdate; refine wpList_mapUpdate_own _ rfl (.tmp 33) (.tmp 34) (.tmp 36) 25 rfl 9 3 law Yba.underlying25 _ mb (n + k) D rfl hown (by unfold maxLen; omega) _ _ _ rfl rfl HK.out _ [] (plainElem_int Yba.underlying3 (WalkArith.wf_i64 (by omega))) ?_)
            intro w1 hown1 hgrow1
            have hM1 : MapIs w1 mb (n + k + 1) (incTo f tags (k + 1)) := ⟨_, hown1, (HS.out.put hown.isMap _ _).congr HG.out⟩
            have HF3 : Hid (Fr qb m0 w w1) := hF.turn hgrow1 hqr HNE.out hok
            have HT1 : Hid (TagAt w1 qb (n + k + 1) (incTo f tags (k + 1)) m0 w.heap.size) := Or.inr ⟨mb, hgrow1.cell hc5 (fun e => HNE.out (Option.some.inj e)), hM1, hok⟩
            clear hown1 hgrow1 hM1 hown
            go_wp2_with fail
            go_roundw
            case rel => exact ⟨k + 1, by omega, by go_num, HT1.out, HF3.out⟩
            case measure => simp [intOf]; omega
    · obtain rfl : k = tags.length := by omega
      go_wp2
      go_end0
      exact ⟨rfl, hT, hF⟩
end Go.Proofs.Ybulkblnk
