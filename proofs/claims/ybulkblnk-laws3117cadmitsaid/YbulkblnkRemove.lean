/-
  THE CONTRACT of tagCount.remove.
-/
import Derived.Test.YbulkblnkIn
import Derived.Test.YbulkblnkMaps
import Derived.OpenShut
namespace Go.Proofs.Ybulkblnk
open Go.RowKit Go.Maps

/-- Does s stand among the strings of l? -/
def hasL (l : List ByteArray) (s : List UInt8) : Bool := l.any fun x => x.data.toList == s
theorem hasL_eq (l : List ByteArray) (x : ByteArray) : hasB l x = hasL l x.data.toList := by
  unfold hasB hasL
  congr 1
  funext y
  rw [ByteArray.toList_eq, ByteArray.toList_eq]
theorem hasL_step (l : List ByteArray) (k : Nat) (h : k < l.length) (s : List UInt8) : hasL (l.take (k + 1)) s = (hasL (l.take k) s || l[k].data.toList == s) := by
  rw [take_snoc l k h]
  unfold hasL
  rw [List.any_append]
  simp only [List.any_cons, List.any_nil, Bool.or_false]

/-- One count taken away. -/
def dec1 (o : Option Int) : Option Int := match o with
  | some c => if 1 < c then some (c - 1) else none
  | none => none
/-- What remove leaves behind the first k tags. -/
def remTo (f : List UInt8 → Option Int) (tags : List ByteArray) (k : Nat) (s : List UInt8) : Option Int := if hasL (tags.take k) s then dec1 (f s) else f s

theorem remTo_dup {f : List UInt8 → Option Int} {tags : List ByteArray} {k : Nat} (hk : k < tags.length) (hd : hasL (tags.take k) tags[k].data.toList = true) (s : List UInt8) : remTo f tags k s = remTo f tags (k + 1) s := by
  unfold remTo
  rw [hasL_step tags k hk]
  by_cases e : tags[k].data.toList = s
  · rw [← e, hd]; rfl
  · rw [beq_eq_false_iff_ne.2 e, Bool.or_false]
theorem remTo_new {f : List UInt8 → Option Int} {tags : List ByteArray} {k : Nat} {v : Option Int} (hk : k < tags.length) (hd : hasL (tags.take k) tags[k].data.toList = false) (hv : dec1 (f tags[k].data.toList) = v) (s : List UInt8) :
    upd (remTo f tags k) tags[k].data.toList v s = remTo f tags (k + 1) s := by
  unfold upd
  by_cases e : s = tags[k].data.toList
  · rw [if_pos e]
    unfold remTo
    rw [hasL_step tags k hk, e, hd]
    simp [hv]
  · rw [if_neg e]
    unfold remTo
    rw [hasL_step tags k hk, beq_eq_false_iff_ne.2 (fun h => e h.symm), Bool.or_false]
theorem remTo_at {f : List UInt8 → Option Int} {tags : List ByteArray} {k : Nat} {s : List UInt8} (hd : hasL (tags.take k) s = false) : remTo f tags k s = f s := by
  unfold remTo; rw [hd]; rfl
theorem val_zero {o : Option Int} {c : Int} (h : val o (.lit (.int .i64 0)) = .lit (.int .i64 c)) : o.getD 0 = c := by
  cases o with
  | none => simp [val] at h; simp [h]
  | some x => simp [val] at h; simp [h]
theorem dec1_more {o : Option Int} {c : Int} (h : o.getD 0 = c) (hc : 1 < c) : dec1 o = some (c - 1) := by
  cases o with
  | none => simp at h; omega
  | some x => simp at h; subst h; simp [dec1, hc]
theorem dec1_less {o : Option Int} {c : Int} (h : o.getD 0 = c) (hc : ¬ 1 < c) : dec1 o = none := by
  cases o with
  | none => rfl
  | some x => simp at h; subst h; simp only [dec1, if_neg hc]

set_option maxHeartbeats 1000000 in
theorem remove_any (mb eb : Nat) (ta : Option Addr) (tags : List ByteArray) (tc n : Nat) (f : List UInt8 → Option Int) (w : World) (hn : n ≤ 1000000) (hl : tags.length ≤ 1000000) (htc : tags.length ≤ tc) (hsz : ∀ s ∈ tags, s.size ≤ maxLen)
    (hcell : w.cell? ⟨eb, 6, none⟩ = some (.slice ta tags.length tc)) (R : Row w ta tags) (M : MapIs w mb n f) :
    Calls Yba.prog 15 #[.map (some mb), .pointer (some ⟨eb, 0, none⟩)] w fun e w' => e = .returned (.tuple #[]) ∧ MapIs w' mb (n + tags.length) (remTo f tags tags.length) ∧ w.grownBy w' (some mb) := by
  go_enter Yba.func15, Yba.ntmps15
  go_wp2
  go_loopw [11] (fun i wr => ∃ k : Nat, k ≤ tags.length ∧ i = .int .i64 k ∧ MapIs wr mb (n + k) (remTo f tags k) ∧ w.grownBy wr (some mb)) (fun i _ => tags.length - (intOf i).toNat)
  case atStart => exact ⟨0, Nat.zero_le _, rfl, M, World.grownBy.refl _ _⟩
  case round =>
    obtain ⟨k, hk, rfl, hM, hg⟩ := hrel
    have hec : wr.cell? ⟨eb, 6, none⟩ = some (.slice ta tags.length tc) := hg.cell hcell (fun e => M.ne hcell (Option.some.inj e))
    have hf1 : wr.frozen? ⟨eb, 6, none⟩ = wr.frozen? ⟨eb, 6, none⟩ := rfl
    clear hf1
    by_cases hlt : k < tags.length
    · have Rr : Row wr ta tags := by
        rcases R with h | ⟨b, off, e, hc⟩
        · exact Or.inl h
        · exact Or.inr ⟨b, off, e, fun i hi => hg.cell (hc i hi) (fun e => M.ne (hc i hi) (Option.some.inj e))⟩
      have Rt := Rr.take k
      rcases Rr with hnil | ⟨b, off, rfl, hcells⟩
      · rw [hnil] at hlt; simp at hlt
      · have hck := hcells k hlt
        have hkc : k ≤ tc := by omega
        have HT : Hid ((tags.take k).length = k) := by
          have : (tags.take k).length = k := by rw [List.length_take]; omega
          exact this
        have HK : Hid (keyOf Yba.prog 9 (.string tags[k]) = some (.string tags[k].data.toList)) := keyIs (hsz _ (List.getElem_mem hlt))
        have HD : Hid (hasL (tags.take k) tags[k].data.toList = true → ∀ s, remTo f tags k s = remTo f tags (k + 1) s) := fun e => remTo_dup hlt e
        have HN : Hid (hasL (tags.take k) tags[k].data.toList = false → ∀ v, dec1 (f tags[k].data.toList) = v → ∀ s, upd (remTo f tags k) tags[k].data.toList v s = remTo f tags (k + 1) s) := fun e v hv => remTo_new hlt e hv
        have HA : Hid (hasL (tags.take k) tags[k].data.toList = false → remTo f tags k tags[k].data.toList = f tags[k].data.toList) := fun e => remTo_at e
        clear hcells
        generalize tags[k] = x at *
        go_wp2_with fail
        refine Calls.mono (contains_at (some ⟨b, off, none⟩) (tags.take k) k tc x _ HT.out (by omega) Rt) ?_
        rintro e w' ⟨rfl, rfl⟩
        rw [hasL_eq]
        cases hd : hasL (tags.take k) x.data.toList with
        | true =>
          have hM2 := hM.congr (HD.out hd)
          clear hd hM
          go_wp2_with fail
          go_roundw
          case rel => exact ⟨k + 1, by omega, by go_num, hM2.mono (by omega), hg⟩
          case measure => simp [intOf]; omega
        | false =>
          have HA2 : Hid (remTo f tags k x.data.toList = f x.data.toList) := HA.out hd
          have HN2 : Hid (∀ v, dec1 (f x.data.toList) = v → ∀ s, upd (remTo f tags k) x.data.toList v s = remTo f tags (k + 1) s) := HN.out hd
          clear hd HA HN HD
          obtain ⟨D, hown, hsees⟩ := hM
          have HS : Hid (Sees D (remTo f tags k)) := hsees
          clear hsees
          go_wp2_with (at_lookup; refine wpList_lookup_own_int _ rfl (.tmp 24) (.tmp 25) 25 rfl 9 3 .i64 law Yba.underlying25 Yba.underlying3 (zeroE _) mb (n + k) D rfl hown _ _ rfl HK.out ?_)
          intro c hat hwc
          have hgd : (f x.data.toList).getD 0 = c := by
            rw [HS.out.1, HA2.out] at hat
            exact val_zero hat
          have HG : Hid ((f x.data.toList).getD 0 = c) := hgd
          have hbd := bounds_i64 hwc
          clear hgd hat hwc
          by_cases hc : 1 < c
          · go_wp2_with (at_lookup; refine wpList_lookup_own_int _ rfl (.tmp 28) (.tmp 29) 25 rfl 9 3 .i64 law Yba.underlying25 Yba.underlying3 (zeroE _) mb (n + k) D rfl hown _ _ rfl HK.out ?_)
            intro c2 hat2 hwc2
            obtain rfl : c2 = c := by
              rw [HS.out.1, HA2.out] at hat2
              have h1 := val_zero hat2
              have h2 := HG.out
              omega
            have HV : Hid (∀ s, upd (remTo f tags k) x.data.toList (some (c2 - 1)) s = remTo f tags (k + 1) s) := HN2.out _ (dec1_more HG.out hc)
            have HW : Hid ((Lit.int .i64 (c2 - 1)).wf = true) := WalkArith.wf_i64 (by omega)
            clear hat2 hwc2 HN2 HA2 HG
            go_wp2_with (at_mapUpdate; refine wpList_mapUpdate_own _ rfl (.tmp 28) (.tmp 29) (.tmp 31) 25 rfl 9 3 law Yba.underlying25 _ mb (n + k) D rfl hown (by unfold maxLen; omega) _ _ _ rfl rfl HK.out _ [] (plainElem_int Yba.underlying3 HW.out) ?_)
            intro w1 hown1 hgrow1
            have hM1 : MapIs w1 mb (n + k + 1) (remTo f tags (k + 1)) := ⟨_, hown1, (HS.out.put hown.isMap _ _).congr HV.out⟩
            have hg1 : w.grownBy w1 (some mb) := hg.trans hgrow1
            clear hown1 hgrow1 hown
            go_wp2_with fail
            go_roundw
            case rel => exact ⟨k + 1, by omega, by go_num, hM1, hg1⟩
            case measure => simp [intOf]; omega
          · have HV : Hid (∀ s, upd (remTo f tags k) x.data.toList none s = remTo f tags (k + 1) s) := HN2.out _ (dec1_less HG.out hc)
            clear HN2 HA2 HG
            go_wp2_with (at_delete; refine wpList_delete_own _ rfl (.tmp 32) (.tmp 33) 25 9 rfl 3 law Yba.underlying25 _ mb (n + k) D rfl hown _ _ rfl HK.out ?_)
            intro w1 hown1 hturn1
            have hM1 : MapIs w1 mb (n + k) (remTo f tags (k + 1)) := ⟨_, hown1, (HS.out.del _).congr HV.out⟩
            have hg1 : w.grownBy w1 (some mb) := hg.trans hturn1.grown
            clear hown1 hturn1 hown
            go_wp2_with fail
            go_roundw
            case rel => exact ⟨k + 1, by omega, by go_num, hM1.mono (by omega), hg1⟩
            case measure => simp [intOf]; omega
    · obtain rfl : k = tags.length := by omega
      go_wp2
      go_end0
      exact ⟨rfl, hM, hg⟩
end Go.Proofs.Ybulkblnk
