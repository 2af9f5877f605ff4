/-
  THE PROOF OF 'Rows.LawS3120CExactSaid'.
-/
import Derived.Test.YbulkblpaCmp
import Derived.OpenShut
import Derived.ShutString
import Derived.Deep.RegionWith
import Derived.Deep.DeepCutAuto
namespace Go.Proofs.Ybulkblpa.lawS3120CExact
open Go.ChangeShapes Go.WideShapes Go.ChangeAt Go.RowKit
open Go.ChangeMaps (open_string shut_string)
set_option linter.unusedVariables false      -- a walk need not use every 'w<i>' (that an integer argument fits its kind)

theorem own : ownKnob Yba.prog.godebug = none := by kernel_rfl

/-! ### STEP 1: THE WALK: the Go text returns true. 'Grown w w'': the world has at most new blocks (Derived/RowKit3.lean). Part the cases AHEAD of 'go_enter' where a test parts the walk; take each callee by a contract of your own. -/
set_option maxHeartbeats 4000000 in
set_option maxRecDepth 100000 in
theorem walk (a0 : Int) (a1 : Int) (a2 : ByteArray) (a3 : Bool) (a4 : Int) (a5 : Int) (a6 : ByteArray) (a7 : Bool) (a8 : Int) (a9 : Int) (a10 : ByteArray) (w0 : (Lit.int .u8 a0).wf = true) (w1 : (Lit.int .i64 a1).wf = true) (w2 : a2.size ≤ maxLen) (w4 : (Lit.int .u8 a4).wf = true) (w5 : (Lit.int .i64 a5).wf = true) (w6 : a6.size ≤ maxLen) (w8 : (Lit.int .u8 a8).wf = true) (w9 : (Lit.int .i64 a9).wf = true) (w10 : a10.size ≤ maxLen) (w : World) :
    Calls Yba.prog 3 #[.int .u8 a0, .int .i64 a1, .string a2, .bool a3, .int .u8 a4, .int .i64 a5, .string a6, .bool a7, .int .u8 a8, .int .i64 a9, .string a10] w fun e w' => e = .returned (.bool true) ∧ Grown w w' := by
  have h0 : 0 ≤ a0 := (bounds_u8 w0).1
  have h4 : 0 ≤ a4 := (bounds_u8 w4).1
  have h8 : 0 ≤ a8 := (bounds_u8 w8).1
  by_cases hA : 1024 < a2.size
  · go_enter Yba.func3, Yba.ntmps3
    go_wp2
    go_ret
    exact ⟨rfl, by go_grown⟩
  by_cases hB : 1024 < a10.size
  · go_enter Yba.func3, Yba.ntmps3
    go_wp2
    go_ret
    exact ⟨rfl, by go_grown⟩
  by_cases hC : 1024 < a6.size
  · go_enter Yba.func3, Yba.ntmps3
    go_wp2
    go_ret
    exact ⟨rfl, by go_grown⟩
  have hm : a0.tmod 3 = a0 % 3 := Int.tmod_eq_emod_of_nonneg h0
  go_enter Yba.func3, Yba.ntmps3
  go_wp2_with fail
  refine Calls.mono (val_any _ _ _ h0 _) ?_
  rintro e u1 ⟨⟨t, m, k, hI, rfl⟩, hg1⟩
  go_wp2_with fail
  refine Calls.mono (val_any _ _ _ h4 _) ?_
  rintro e u2 ⟨⟨t2, m2, k2, hI2, rfl⟩, hg2⟩
  have hG2 : Hid (Grown w u2) := Gr.trans hg1 hg2
  clear hI2 hg1 hg2
  go_upto_region 4 with fail
  go_cut [24] (fun v wd => ∃ t3 m3 k3, v = .bool (befV k a3 (cmpV t3 m3 k3 t m k)) ∧ Is a8 a9 a10 t3 m3 k3 ∧ Grown u2 wd)
  case first =>
    by_cases hz : a8 % 3 = 0
    · go_region_with (first
        | (go_at_call 5; refine Calls.mono (val_null _ _ _ h8 hz _) ?_; rintro e u3 ⟨rfl, rfl⟩)
        | (go_at_call 6; refine Calls.mono (before_any _ _ _ _ _ _ _ _ _ _ _ _) ?_; rintro e u4 ⟨rfl, hg4⟩))
      all_goals
        go_wp2_with fail
        go_meet
        exact ⟨_, _, _, rfl, Or.inr (Or.inr ⟨hz, rfl, rfl, rfl⟩), Gr.trans (by go_grown) hg4⟩
    · go_region_with (first
        | (go_at_call 5; refine Calls.mono (val_some _ _ _ h8 hz _) ?_; rintro e u3 ⟨t3, m3, k3, hI3, rfl, rfl⟩)
        | (go_at_call 6; refine Calls.mono (before_any _ _ _ _ _ _ _ _ _ _ _ _) ?_; rintro e u4 ⟨rfl, hg4⟩))
      all_goals
        go_wp2_with fail
        go_meet
        exact ⟨_, _, _, rfl, hI3, Gr.trans (by go_grown) hg4⟩
  case rest =>
    obtain ⟨t3, m3, k3, rfl, hI3, hg3⟩ := hcut
    have HG : Hid (Grown w wc) := Gr.trans hG2.out hg3
    have HV : Hid (cmpV t3 m3 k3 t m k = ownC a8 a9 a10 a0 a1 a2) := (own_is hI3 hI).symm
    have hk : decide (k = 0) = decide (a0 % 3 = 0) := Is.null hI
    clear hg3 hG2 hI hI3
    generalize hx : cmpV t3 m3 k3 t m k = c at *
    by_cases hz : a0 % 3 = 0 ∧ a3 = false
    · obtain ⟨hz0, rfl⟩ := hz
      have hv : befV k false c = false := by simp_all [befV]
      rw [hv]
      go_wp2
      go_ret
      exact ⟨rfl, HG.out⟩
    · have HB : Hid (befV k a3 c = (decide (c < 0) || (decide (c = 0) && !a3))) := by
        have : befV k a3 c = (decide (c < 0) || (decide (c = 0) && !a3)) := by
          unfold befV
          rw [hk]
          cases a3 <;> simp_all
        exact this
      have hzz : (a0 % 3 == 0 && !a3) = false := by
        cases a3 <;> simp_all
      clear hz hk
      cases a3
      · have hne : (a0 % 3 == 0) = false := by simpa using hzz
        clear hzz
        go_wp2_with fail
        refine Calls.mono (ccmp_any _ _ _ _ _ _ h8 h0 (Nat.le_of_not_lt hB) _) ?_
        rintro e u5 ⟨rfl, hg5⟩
        rw [← HV.out]
        have HG5 : Hid (Grown w u5) := Gr.trans HG.out hg5
        clear hg5 HG
        rw [HB.out]
        by_cases q1 : c < 0
        · go_wp2
          go_ret
          exact ⟨by simp_all, HG5.out⟩
        · by_cases q2 : c = 0
          · go_wp2
            go_ret
            exact ⟨by simp_all, HG5.out⟩
          · go_wp2
            go_ret
            exact ⟨by simp_all, HG5.out⟩
      · clear hzz
        by_cases hz0 : a0 % 3 = 0
        all_goals
          go_wp2_with fail
          refine Calls.mono (ccmp_any _ _ _ _ _ _ h8 h0 (Nat.le_of_not_lt hB) _) ?_
          rintro e u5 ⟨rfl, hg5⟩
          rw [← HV.out]
          have HG5 : Hid (Grown w u5) := Gr.trans HG.out hg5
          clear hg5 HG
          rw [HB.out]
          by_cases q1 : c < 0
          · go_wp2
            go_ret
            exact ⟨by simp_all, HG5.out⟩
          · by_cases q2 : c = 0
            · go_wp2
              go_ret
              exact ⟨by simp_all, HG5.out⟩
            · go_wp2
              go_ret
              exact ⟨by simp_all, HG5.out⟩

/-! ### THE ROW's STEP: WRITTEN OUT: LEAVE IT -/
set_option maxRecDepth 100000 in
theorem lifted (os : Os) (started : os.Started) (H : Type) (enc : TypeId × Value → H) :
    ReturnsInHanded {} Yba.checked os 3 .any (Rows.lawS3120CExactSpec.pre6 enc Yba.prog Yba.f3 Rows.lawS3120CExactRow.domain false) (Rows.lawS3120CExactSpec.post enc Yba.prog Yba.f3 false true false false) := by
  refine returnsInHanded_of_change (C := Yba.checked) own started (by kernel_rfl) Yba.func3
    (ChangeSpec.witness6 (enc := enc) (C := Yba.checked) false ⟨#[], #[.int .u8 0, .int .i64 0, .string ByteArray.empty, .bool false, .int .u8 0, .int .i64 0, .string ByteArray.empty, .bool false, .int .u8 0, .int .i64 0, .string ByteArray.empty], []⟩ 8 (by kernel_rfl) (by kernel_rfl) (by kernel_rfl) (by kernel_rfl)) ?_
  intro W base args ds gs before hval0 hW hcnd _
  have hval : ∀ (j : Nat) t v, Yba.f3.params[j]? = some t → args[j]? = some v → Value.okWide Yba.prog W .any base t v := hval0
  have hW' := hW
  obtain ⟨p, q, hA0, hV, rfl, hfz, hnd⟩ := hW
  have hA : DataW.TrodAll enc Yba.prog W 0 (fun _ => true) true Yba.f3.params.toList args.toList ds p := hA0
  rw [Yba.params3] at hA hval
  obtain ⟨v0, vs0, d0, ds0, p0, q0, hargs, rfl, rfl, h0, r0⟩ := trodAll_cons hA
  obtain ⟨v1, vs1, d1, ds1, p1, q1, rfl, rfl, rfl, h1, r1⟩ := trodAll_cons r0
  obtain ⟨v2, vs2, d2, ds2, p2, q2, rfl, rfl, rfl, h2, r2⟩ := trodAll_cons r1
  obtain ⟨v3, vs3, d3, ds3, p3, q3, rfl, rfl, rfl, h3, r3⟩ := trodAll_cons r2
  obtain ⟨v4, vs4, d4, ds4, p4, q4, rfl, rfl, rfl, h4, r4⟩ := trodAll_cons r3
  obtain ⟨v5, vs5, d5, ds5, p5, q5, rfl, rfl, rfl, h5, r5⟩ := trodAll_cons r4
  obtain ⟨v6, vs6, d6, ds6, p6, q6, rfl, rfl, rfl, h6, r6⟩ := trodAll_cons r5
  obtain ⟨v7, vs7, d7, ds7, p7, q7, rfl, rfl, rfl, h7, r7⟩ := trodAll_cons r6
  obtain ⟨v8, vs8, d8, ds8, p8, q8, rfl, rfl, rfl, h8, r8⟩ := trodAll_cons r7
  obtain ⟨v9, vs9, d9, ds9, p9, q9, rfl, rfl, rfl, h9, r9⟩ := trodAll_cons r8
  obtain ⟨v10, vs10, d10, ds10, p10, q10, rfl, rfl, rfl, h10, r10⟩ := trodAll_cons r9
  obtain ⟨rfl, rfl, rfl⟩ := trodAll_nil r10
  obtain rfl : args = #[v0, v1, v2, v3, v4, v5, v6, v7, v8, v9, v10] := by cases args; simp_all
  obtain ⟨rfl, rfl⟩ := trodVars_none hV
  obtain ⟨a0, rfl, rfl, rfl, w0⟩ := open_int Yba.underlying5 (hval 0 5 v0 rfl rfl) h0
  obtain ⟨a1, rfl, rfl, rfl, w1⟩ := open_int Yba.underlying2 (hval 1 2 v1 rfl rfl) h1
  obtain ⟨a2, rfl, rfl, rfl, w2⟩ := open_string Yba.underlying9 (hval 2 9 v2 rfl rfl) h2
  obtain ⟨a3, rfl, rfl, rfl⟩ := open_bool Yba.underlying4 (hval 3 4 v3 rfl rfl) h3
  obtain ⟨a4, rfl, rfl, rfl, w4⟩ := open_int Yba.underlying5 (hval 4 5 v4 rfl rfl) h4
  obtain ⟨a5, rfl, rfl, rfl, w5⟩ := open_int Yba.underlying2 (hval 5 2 v5 rfl rfl) h5
  obtain ⟨a6, rfl, rfl, rfl, w6⟩ := open_string Yba.underlying9 (hval 6 9 v6 rfl rfl) h6
  obtain ⟨a7, rfl, rfl, rfl⟩ := open_bool Yba.underlying4 (hval 7 4 v7 rfl rfl) h7
  obtain ⟨a8, rfl, rfl, rfl, w8⟩ := open_int Yba.underlying5 (hval 8 5 v8 rfl rfl) h8
  obtain ⟨a9, rfl, rfl, rfl, w9⟩ := open_int Yba.underlying2 (hval 9 2 v9 rfl rfl) h9
  obtain ⟨a10, rfl, rfl, rfl, w10⟩ := open_string Yba.underlying9 (hval 10 9 v10 rfl rfl) h10
  clear hA0 hval0
  simp only [List.append_nil] at hW'
  refine (walk a0 a1 a2 a3 a4 a5 a6 a7 a8 a9 a10 w0 w1 w2 w4 w5 w6 w8 w9 w10 W).mono fun e W' ⟨he, hg⟩ => ?_
  subst he
  exact ⟨_, rfl, post_of_same (pa := []) (pv := []) hW' (fun _ _ _ => (trodAll_cons_mk (shut_bool Yba.underlying4 _) trodAll_mk0)) (fun sp _ => (trodAll_cons_mk (shut_int Yba.underlying5 w0) (trodAll_cons_mk (shut_int Yba.underlying2 w1) (trodAll_cons_mk (shut_string Yba.underlying9 w2) (trodAll_cons_mk (shut_bool Yba.underlying4 _) (trodAll_cons_mk (shut_int Yba.underlying5 w4) (trodAll_cons_mk (shut_int Yba.underlying2 w5) (trodAll_cons_mk (shut_string Yba.underlying9 w6) (trodAll_cons_mk (shut_bool Yba.underlying4 _) (trodAll_cons_mk (shut_int Yba.underlying5 w8) (trodAll_cons_mk (shut_int Yba.underlying2 w9) (trodAll_cons_mk (shut_string Yba.underlying9 w10) trodAll_mk0)))))))))))) (fun _ _ => rfl) rfl
    (hg.frame _) hg.2.1 (ok_one (by kernel_rfl) rfl (okWide_bool_mk Yba.underlying4 _))⟩

theorem over : Rows.lawS3120CExactRow.holds Yba.pinned (OpenSpec.ofChange Rows.lawS3120CExactSpec) :=
  OpenClaim.holds_of_wide 3 Yba.f3 rfl rfl rfl rfl rfl rfl rfl ⟨rfl, rfl, rfl, rfl, rfl⟩ rfl rfl rfl rfl rfl (by kernel_rfl) Yba.func3 (by kernel_rfl)
    (of_decide_eq_true (by kernel_rfl)) (by unfold Func.isWrapper; first | (rw [if_pos (by decide +kernel)]; kernel_rfl) | (rw [if_neg (by decide +kernel)]; exact ⟨rfl, rfl⟩))
    (fun os started H enc _ => lifted os started H enc)

end Go.Proofs.Ybulkblpa.lawS3120CExact

namespace Go.Proofs.Ybulkblpa
/-- THE STATEMENT. -/
theorem exact_said : Rows.LawS3120CExactSaid := lawS3120CExact.over
end Go.Proofs.Ybulkblpa
