/-
  THE PROOF OF 'Rows.LawS3120CAtLowSaid'.
-/
import Derived.Test.YbulkblpaBytes
import Derived.OpenShut
import Derived.Deep.RegionWith
import Derived.Deep.DeepCutAuto
import Derived.ShutString
namespace Go.Proofs.Ybulkblpa.lawS3120CAtLow
open Go.ChangeShapes Go.WideShapes Go.ChangeAt Go.RowKit
open Go.ChangeMaps (open_string shut_string)
set_option linter.unusedVariables false      -- a walk need not use every 'w<i>' (that an integer argument fits its kind)

theorem own : ownKnob Yba.prog.godebug = none := by kernel_rfl

/-! ### STEP 1: THE WALK: the Go text returns true. 'Grown w w'': the world has at most new blocks (Derived/RowKit3.lean). Part the cases AHEAD of 'go_enter' where a test parts the walk; take each callee by a contract of your own. -/
set_option maxHeartbeats 4000000 in
set_option maxRecDepth 100000 in
theorem walk (a0 : Int) (a1 : Int) (a2 : ByteArray) (a3 : Bool) (a4 : Int) (a5 : Int) (a6 : ByteArray) (a7 : Bool) (w0 : (Lit.int .u8 a0).wf = true) (w1 : (Lit.int .i64 a1).wf = true) (w2 : a2.size ≤ maxLen) (w4 : (Lit.int .u8 a4).wf = true) (w5 : (Lit.int .i64 a5).wf = true) (w6 : a6.size ≤ maxLen) (w : World) :
    Calls Yba.prog 4 #[.int .u8 a0, .int .i64 a1, .string a2, .bool a3, .int .u8 a4, .int .i64 a5, .string a6, .bool a7] w fun e w' => e = .returned (.bool true) ∧ Grown w w' := by
  have h0 : 0 ≤ a0 := (bounds_u8 w0).1
  have h4 : 0 ≤ a4 := (bounds_u8 w4).1
  by_cases hA : 1024 < a2.size
  · go_enter Yba.func4, Yba.ntmps4
    go_wp2
    go_ret
    exact ⟨rfl, by go_grown⟩
  by_cases hB : 1024 < a6.size
  · go_enter Yba.func4, Yba.ntmps4
    go_wp2
    go_ret
    exact ⟨rfl, by go_grown⟩
  have hm : a0.tmod 3 = a0 % 3 := Int.tmod_eq_emod_of_nonneg h0
  go_enter Yba.func4, Yba.ntmps4
  go_wp2_with fail
  refine Calls.mono (val_any _ _ _ h0 _) ?_
  rintro e u1 ⟨⟨t, m, k, hI, rfl⟩, hg1⟩
  go_upto_region 4 with fail
  go_cut [18] (fun v wd => ∃ b th nh kh, v = .pointer (some ⟨b, 0, none⟩) ∧ b < wd.heap.size ∧ wd.cell? ⟨b, 0, none⟩ = some (.string t) ∧ wd.cell? ⟨b, 1, none⟩ = some (.int .i64 m) ∧ wd.cell? ⟨b, 2, none⟩ = some (.int .u8 k) ∧
    wd.cell? ⟨b, 3, none⟩ = some (.string th) ∧ wd.cell? ⟨b, 4, none⟩ = some (.int .i64 nh) ∧ wd.cell? ⟨b, 5, none⟩ = some (.int .u8 kh) ∧ wd.cell? ⟨b, 6, none⟩ = some (.bool a3) ∧ wd.cell? ⟨b, 7, none⟩ = some (.bool a7) ∧
    Grown (u1.alloc (.cells #[.string t, .int .i64 m, .int .u8 k] 24)) wd)
  case first =>
    by_cases hz : a4 % 3 = 0
    · go_region_with (go_at_call 5; refine Calls.mono (val_null _ _ _ h4 hz _) ?_; rintro e u2 ⟨rfl, rfl⟩)
      all_goals
        go_wp2_with fail
        go_meet
        exact ⟨_, ByteArray.empty, 0, 0, rfl, by simp; try omega, by go_simp, by go_simp, by go_simp, by first | (go_simp; done) | (go_simp; rfl), by go_simp, by go_simp, by go_simp, by go_simp, by go_grown⟩
    · go_region_with (go_at_call 5; refine Calls.mono (val_some _ _ _ h4 hz _) ?_; rintro e u2 ⟨t2, m2, k2, hI2, rfl, rfl⟩)
      all_goals
        go_wp2_with fail
        go_meet
        exact ⟨_, t2, m2, k2, rfl, by simp; try omega, by go_simp, by go_simp, by go_simp, by go_simp, by go_simp, by go_simp, by go_simp, by go_simp, by go_grown⟩
  case rest =>
    obtain ⟨b, th, nh, kh, rfl, hb, c0, c1, c2, c3, c4, c5, c6, c7, hg2⟩ := hcut
    have l0 := Gr.cell hg2 (a := ⟨u1.heap.size, 0, none⟩) (v := .string t) (by go_simp)
    have l1 := Gr.cell hg2 (a := ⟨u1.heap.size, 1, none⟩) (v := .int .i64 m) (by go_simp)
    have l2 := Gr.cell hg2 (a := ⟨u1.heap.size, 2, none⟩) (v := .int .u8 k) (by go_simp)
    have hl : u1.heap.size < wc.heap.size := World.block_lt_of_cell? _ _ l0
    have hn1 : b ≠ wc.heap.size := by omega
    have hn2 : u1.heap.size ≠ wc.heap.size := by omega
    have HG : Hid (Grown w wc) := Gr.trans (Gr.trans hg1 (by go_grown)) hg2
    clear hg1 hg2
    generalize u1.heap.size = lb at *
    go_wp2_with fail
    refine Calls.mono (before_any _ _ _ _ _ _ _ _ _ _ _ _) ?_
    rintro e u3 ⟨rfl, hg3⟩
    have m0 := Gr.cell hg3 (a := ⟨lb, 0, none⟩) (v := .string t) (by go_simp)
    have m1 := Gr.cell hg3 (a := ⟨lb, 1, none⟩) (v := .int .i64 m) (by go_simp)
    have m2 := Gr.cell hg3 (a := ⟨lb, 2, none⟩) (v := .int .u8 k) (by go_simp)
    have d0 := Gr.cell hg3 (a := ⟨wc.heap.size, 0, none⟩) (v := .string t) (by go_simp)
    have d1 := Gr.cell hg3 (a := ⟨wc.heap.size, 1, none⟩) (v := .int .i64 m) (by go_simp)
    have d2 := Gr.cell hg3 (a := ⟨wc.heap.size, 2, none⟩) (v := .int .u8 k) (by go_simp)
    have d3 := Gr.cell hg3 (a := ⟨wc.heap.size, 3, none⟩) (v := .string { data := #[] }) (by go_simp)
    have d4 := Gr.cell hg3 (a := ⟨wc.heap.size, 4, none⟩) (v := .int .i64 0) (by go_simp)
    have d5 := Gr.cell hg3 (a := ⟨wc.heap.size, 5, none⟩) (v := .int .u8 0) (by go_simp)
    have d6 := Gr.cell hg3 (a := ⟨wc.heap.size, 6, none⟩) (v := .bool a3) (by go_simp)
    have d7 := Gr.cell hg3 (a := ⟨wc.heap.size, 7, none⟩) (v := .bool false) (by go_simp)
    have HG3 : Hid (Grown w u3) := Gr.trans (Gr.trans HG.out (by go_grown)) hg3
    clear hg3 HG c0 c1 c2 c3 c4 c5 c6 c7 l0 l1 l2 hn1 hn2 hb hl
    generalize wc.heap.size = rb at *
    go_wp2_with fail
    refine Calls.mono (before_any _ _ _ _ _ _ _ _ _ _ _ _) ?_
    rintro e u4 ⟨rfl, hg4⟩
    have HG4 : Hid (Grown w u4) := Gr.trans HG3.out hg4
    clear hg4 HG3 m0 m1 m2 d0 d1 d2 d3 d4 d5 d6 d7
    have hs : cmpV t m k t m k = 0 := cmpV_self _ _ _
    rw [hs]
    have hk : decide (k = 0) = decide (a0 % 3 = 0) := Is.null hI
    clear hI
    by_cases hz : a0 % 3 = 0
    · have hv : befV k a3 0 = false := by cases a3 <;> simp_all [befV]
      rw [hv]
      cases a3
      all_goals
        go_wp2
        go_ret
        exact ⟨rfl, HG4.out⟩
    · cases a3
      · have hv : befV k false 0 = true := by simp_all [befV]
        rw [hv]
        have hne : (a0 % 3 != 0) = true := by simpa using hz
        go_wp2
        go_ret
        exact ⟨rfl, HG4.out⟩
      · have hv : befV k true 0 = false := by simp [befV]
        rw [hv]
        go_wp2
        go_ret
        exact ⟨rfl, HG4.out⟩

/-! ### THE ROW's STEP: WRITTEN OUT: LEAVE IT -/
set_option maxRecDepth 100000 in
theorem lifted (os : Os) (started : os.Started) (H : Type) (enc : TypeId × Value → H) :
    ReturnsInHanded {} Yba.checked os 4 .any (Rows.lawS3120CAtLowSpec.pre6 enc Yba.prog Yba.f4 Rows.lawS3120CAtLowRow.domain false) (Rows.lawS3120CAtLowSpec.post enc Yba.prog Yba.f4 false true false false) := by
  refine returnsInHanded_of_change (C := Yba.checked) own started (by kernel_rfl) Yba.func4
    (ChangeSpec.witness6 (enc := enc) (C := Yba.checked) false ⟨#[], #[.int .u8 0, .int .i64 0, .string ByteArray.empty, .bool false, .int .u8 0, .int .i64 0, .string ByteArray.empty, .bool false], []⟩ 8 (by kernel_rfl) (by kernel_rfl) (by kernel_rfl) (by kernel_rfl)) ?_
  intro W base args ds gs before hval0 hW hcnd _
  have hval : ∀ (j : Nat) t v, Yba.f4.params[j]? = some t → args[j]? = some v → Value.okWide Yba.prog W .any base t v := hval0
  have hW' := hW
  obtain ⟨p, q, hA0, hV, rfl, hfz, hnd⟩ := hW
  have hA : DataW.TrodAll enc Yba.prog W 0 (fun _ => true) true Yba.f4.params.toList args.toList ds p := hA0
  rw [Yba.params4] at hA hval
  obtain ⟨v0, vs0, d0, ds0, p0, q0, hargs, rfl, rfl, h0, r0⟩ := trodAll_cons hA
  obtain ⟨v1, vs1, d1, ds1, p1, q1, rfl, rfl, rfl, h1, r1⟩ := trodAll_cons r0
  obtain ⟨v2, vs2, d2, ds2, p2, q2, rfl, rfl, rfl, h2, r2⟩ := trodAll_cons r1
  obtain ⟨v3, vs3, d3, ds3, p3, q3, rfl, rfl, rfl, h3, r3⟩ := trodAll_cons r2
  obtain ⟨v4, vs4, d4, ds4, p4, q4, rfl, rfl, rfl, h4, r4⟩ := trodAll_cons r3
  obtain ⟨v5, vs5, d5, ds5, p5, q5, rfl, rfl, rfl, h5, r5⟩ := trodAll_cons r4
  obtain ⟨v6, vs6, d6, ds6, p6, q6, rfl, rfl, rfl, h6, r6⟩ := trodAll_cons r5
  obtain ⟨v7, vs7, d7, ds7, p7, q7, rfl, rfl, rfl, h7, r7⟩ := trodAll_cons r6
  obtain ⟨rfl, rfl, rfl⟩ := trodAll_nil r7
  obtain rfl : args = #[v0, v1, v2, v3, v4, v5, v6, v7] := by cases args; simp_all
  obtain ⟨rfl, rfl⟩ := trodVars_none hV
  obtain ⟨a0, rfl, rfl, rfl, w0⟩ := open_int Yba.underlying5 (hval 0 5 v0 rfl rfl) h0
  obtain ⟨a1, rfl, rfl, rfl, w1⟩ := open_int Yba.underlying2 (hval 1 2 v1 rfl rfl) h1
  obtain ⟨a2, rfl, rfl, rfl, w2⟩ := open_string Yba.underlying9 (hval 2 9 v2 rfl rfl) h2
  obtain ⟨a3, rfl, rfl, rfl⟩ := open_bool Yba.underlying4 (hval 3 4 v3 rfl rfl) h3
  obtain ⟨a4, rfl, rfl, rfl, w4⟩ := open_int Yba.underlying5 (hval 4 5 v4 rfl rfl) h4
  obtain ⟨a5, rfl, rfl, rfl, w5⟩ := open_int Yba.underlying2 (hval 5 2 v5 rfl rfl) h5
  obtain ⟨a6, rfl, rfl, rfl, w6⟩ := open_string Yba.underlying9 (hval 6 9 v6 rfl rfl) h6
  obtain ⟨a7, rfl, rfl, rfl⟩ := open_bool Yba.underlying4 (hval 7 4 v7 rfl rfl) h7
  clear hA0 hval0
  simp only [List.append_nil] at hW'
  refine (walk a0 a1 a2 a3 a4 a5 a6 a7 w0 w1 w2 w4 w5 w6 W).mono fun e W' ⟨he, hg⟩ => ?_
  subst he
  exact ⟨_, rfl, post_of_same (pa := []) (pv := []) hW' (fun _ _ _ => (trodAll_cons_mk (shut_bool Yba.underlying4 _) trodAll_mk0)) (fun sp _ => (trodAll_cons_mk (shut_int Yba.underlying5 w0) (trodAll_cons_mk (shut_int Yba.underlying2 w1) (trodAll_cons_mk (shut_string Yba.underlying9 w2) (trodAll_cons_mk (shut_bool Yba.underlying4 _) (trodAll_cons_mk (shut_int Yba.underlying5 w4) (trodAll_cons_mk (shut_int Yba.underlying2 w5) (trodAll_cons_mk (shut_string Yba.underlying9 w6) (trodAll_cons_mk (shut_bool Yba.underlying4 _) trodAll_mk0))))))))) (fun _ _ => rfl) rfl
    (hg.frame _) hg.2.1 (ok_one (by kernel_rfl) rfl (okWide_bool_mk Yba.underlying4 _))⟩

theorem over : Rows.lawS3120CAtLowRow.holds Yba.pinned (OpenSpec.ofChange Rows.lawS3120CAtLowSpec) :=
  OpenClaim.holds_of_wide 4 Yba.f4 rfl rfl rfl rfl rfl rfl rfl ⟨rfl, rfl, rfl, rfl, rfl⟩ rfl rfl rfl rfl rfl (by kernel_rfl) Yba.func4 (by kernel_rfl)
    (of_decide_eq_true (by kernel_rfl)) (by unfold Func.isWrapper; first | (rw [if_pos (by decide +kernel)]; kernel_rfl) | (rw [if_neg (by decide +kernel)]; exact ⟨rfl, rfl⟩))
    (fun os started H enc _ => lifted os started H enc)

end Go.Proofs.Ybulkblpa.lawS3120CAtLow

namespace Go.Proofs.Ybulkblpa
/-- THE STATEMENT. -/
theorem atLow_said : Rows.LawS3120CAtLowSaid := lawS3120CAtLow.over
end Go.Proofs.Ybulkblpa
