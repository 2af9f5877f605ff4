/-
  THE WALK of LawS3114CPicked.
-/
import Derived.Test.YbulkblluModelWalk
import Derived.OwnWalk
namespace Go.Proofs.Ybulkbllu
open Go.RowKit

theorem info9 : (Yba.prog.info? 9).map (fun i => (i.zero, i.size, i.bytes)) = some (some (.string ByteArray.empty), 1, 16) := by kernel_rfl

/-- The cells of a slice of bytes. -/
def RowU (w : World) (a0 : Option Addr) (l : List Int) : Prop :=
  l = [] ∨ ∃ b off : Nat, a0 = some ⟨b, off, none⟩ ∧ ∀ (i : Nat) (h : i < l.length), w.cell? ⟨b, off + i, none⟩ = some (.int .u8 l[i]) ∧ 0 ≤ l[i] ∧ l[i] ≤ 255
theorem RowU.below {w w' : World} {a0 : Option Addr} {l : List Int} (h : RowU w a0 l) (hb : Below w.heap.size w w') : RowU w' a0 l := by
  rcases h with h | ⟨b, off, e, hc⟩
  · exact Or.inl h
  · refine Or.inr ⟨b, off, e, fun i hi => ?_⟩
    rw [hb.cell (p := ⟨b, off + i, none⟩) (World.block_lt_of_cell? _ _ (hc i hi).1)]
    exact hc i hi
/-- Strings as cells. -/
def sv (l : List ByteArray) : List Value := l.map Value.string
theorem sv_length (l : List ByteArray) : (sv l).length = l.length := List.length_map ..
theorem sv_append (l m : List ByteArray) : sv (l ++ m) = sv l ++ sv m := List.map_append ..
theorem sv_one (l : List ByteArray) : ∀ u ∈ sv l, u.oneCell' = true := by
  intro u hu
  obtain ⟨_, _, rfl⟩ := List.mem_map.1 hu
  rfl
theorem sv_at {l : List ByteArray} {j : Nat} {u : Value} (h : (sv l)[j]? = some u) : ∃ hj : j < l.length, u = .string l[j] := by
  unfold sv at h
  rw [List.getElem?_map] at h
  have hj : j < l.length := by
    rcases Nat.lt_or_ge j l.length with h1 | h1
    · exact h1
    · rw [List.getElem?_eq_none h1] at h; cases h
  rw [List.getElem?_eq_getElem hj] at h
  exact ⟨hj, (Option.some.inj h).symm⟩
theorem Row.src {w : World} {a0 : Option Addr} {l : List ByteArray} (h : Row w a0 l) : ∀ ad, a0 = some ad → ∀ (j : Nat) u, (sv l)[j]? = some u → w.cell? (ad.add j) = some u := by
  intro ad had j u hu
  obtain ⟨hj, rfl⟩ := sv_at hu
  rcases h with rfl | ⟨b, off, e, hc⟩
  · simp at hj
  · rw [e] at had
    obtain rfl := Option.some.inj had
    rw [Addr.add_lit]
    exact hc j hj
theorem Row.of_own {w : World} {base g cap n : Nat} {l : List ByteArray} (h : w.ownsRow base 9 1 (.slice (some ⟨g, 0, none⟩) n cap) n (sv l)) : Row w (some ⟨g, 0, none⟩) l := by
  refine Or.inr ⟨g, 0, rfl, fun i hi => ?_⟩
  have := h.cells (g := g) rfl i (.string l[i]) (by unfold sv; rw [List.getElem?_map, List.getElem?_eq_getElem hi]; rfl)
  rw [Addr.add_lit] at this
  exact this
theorem own_cell {w : World} {base g cap n : Nat} {l : List ByteArray} (h : w.ownsRow base 9 1 (.slice (some ⟨g, 0, none⟩) n cap) n (sv l)) (i : Nat) (hi : i < l.length) : w.cell? ⟨g, i, none⟩ = some (.string l[i]) := by
  rcases Row.of_own h with rfl | ⟨b, off, e, hc⟩
  · simp at hi
  · simp only [Option.some.injEq, Addr.mk.injEq, and_true] at e
    obtain ⟨rfl, rfl⟩ := e
    have := hc i hi
    rwa [Nat.zero_add] at this

theorem own_cell_ex {w : World} {base g cap n : Nat} {l : List ByteArray} (h : w.ownsRow base 9 1 (.slice (some ⟨g, 0, none⟩) n cap) n (sv l)) (i : Nat) (hi : i < l.length) : ∃ y, w.cell? ⟨g, i, none⟩ = some (.string y) :=
  ⟨_, own_cell h i hi⟩

set_option maxHeartbeats 1000000 in
theorem law_picked (ra oa pa : Option Addr) (req opt : List ByteArray) (picks : List Int) (nr no np rc oc pc : Nat) (s : ByteArray) (ws : Bool) (w : World) (er : req.length = nr) (eo : opt.length = no) (ep : picks.length = np) (mr : nr ≤ maxLen) (mo : no ≤ maxLen) (mp : np ≤ maxLen)
    (zr : ra = none → nr = 0 ∧ rc = 0) (zo : oa = none → no = 0 ∧ oc = 0)
    (Rr : Row w ra req) (Ro : Row w oa opt) (Rp : RowU w pa picks) :
    Calls Yba.prog 4 #[.slice ra nr rc, .slice oa no oc, .slice pa np pc, .string s, .bool ws] w fun e w' => e = .returned (.bool true) ∧ Below w.heap.size w w' := by
  unfold maxLen at mr mo mp
  have Er : Hid (req.length = nr) := er
  have Eo : Hid (opt.length = no) := eo
  have Ep : Hid (picks.length = np) := ep
  have Zr : Hid (ra = none → nr = 0 ∧ rc = 0) := zr
  have Zo : Hid (oa = none → no = 0 ∧ oc = 0) := zo
  clear er eo ep zr zo
  by_cases h1 : 1024 < nr
  · go_enter Yba.func4, Yba.ntmps4
    go_wp2
    go_ret
    exact ⟨rfl, Below.refl _ _⟩
  by_cases h2 : 1024 < no
  · go_enter Yba.func4, Yba.ntmps4
    go_wp2
    go_ret
    exact ⟨rfl, Below.refl _ _⟩
  by_cases h3 : 1024 < np
  · go_enter Yba.func4, Yba.ntmps4
    go_wp2
    go_ret
    exact ⟨rfl, Below.refl _ _⟩
  obtain ⟨i0, hi, hz0, hz1, hz2⟩ := info_parts info9
  go_enter Yba.func4, Yba.ntmps4
  go_wp2_with (at_make; refine wpList_make_own _ rfl _ _ 22 rfl w.heap.size 9 i0 (.string ByteArray.empty) 1 Yba.underlying22 hi hz0 hz1 _ _ _ (nr + no) rfl rfl (by omega) (by rw [hz2]; omega) (by unfold maxLen; omega) (Nat.le_refl _) ?_)
  intro w0 hown0 hgrow0
  have b0 : Below w.heap.size w w0 := (Below.refl _ _).grown hgrow0 (Nat.le_refl _) (fun k h => by cases h)
  have R0 := Rr.below b0
  go_wp2_with (at_builtin; refine wpList_append_fits_any _ rfl (.tmp 36) (.tmp 37) 22 rfl w.heap.size 9 i0 1 Yba.underlying22 hi hz1 w.heap.size 0 (nr + no) [] rfl hown0 ra nr rc (sv req) rfl (by rw [sv_length, Er.out, Nat.mul_one]) Zr.out R0.src (sv_one _) (by omega) ?_)
  intro w1 hown1 hgrow1
  have b1 : Below w.heap.size w w1 := b0.grown hgrow1 b0.size (fun k hk => by cases hk; exact Nat.le_refl _)
  have R1 := Ro.below b1
  clear R0 hown0 hgrow0 hgrow1 b0
  go_wp2_with (at_builtin; refine wpList_append_fits_any _ rfl (.tmp 39) (.tmp 40) 22 rfl w.heap.size 9 i0 1 Yba.underlying22 hi hz1 w.heap.size nr (nr + no) (sv req) rfl hown1 oa no oc (sv opt) rfl (by rw [sv_length, Eo.out, Nat.mul_one]) Zo.out R1.src (sv_one _) (by omega) ?_)
  intro w2 hown2 hgrow2
  rw [← sv_append] at hown2
  have b2 : Below w.heap.size w w2 := b1.grown hgrow2 b1.size (fun k hk => by cases hk; exact Nat.le_refl _)
  clear R1 hown1 hgrow2 b1
  by_cases hp : nr + no = 0
  · have hle : ¬ 0 < (nr : Int) + (no : Int) := by omega
    clear hp
    cases ws with
    | false =>
      have b6 : Below w.heap.size w (w2.alloc (.cells #[.slice ra nr rc, .slice oa no oc] 24)) := b2.alloc b2.size _
      have Rr6 := Rr.below b6
      have Ro6 := Ro.below b6
      have Rh6 : Row (w2.alloc (.cells #[.slice ra nr rc, .slice oa no oc] 24)) none [] := Or.inl rfl
      go_wp2_with fail
      refine (fit_at ra oa none req opt [] nr no 0 rc oc 0 _ Er.out Eo.out rfl (by omega) (by omega) (by omega) (Nat.le_refl _) Rr6 Ro6 Rh6).mono ?_
      rintro e w7 ⟨rfl, hb7⟩
      have b7 : Below w.heap.size w w7 := b6.trans (hb7.mono b6.size)
      have Rr7 := Rr.below b7
      have Ro7 := Ro.below b7
      have Rh7 := Rh6.below hb7
      clear hb7 Rr6 Ro6 Rh6 b6
      go_wp2_with fail
      refine (model_at ra oa none req opt [] nr no 0 rc oc 0 _ Er.out Eo.out rfl (by omega) (by omega) (by omega) Rr7 Ro7 Rh7).mono ?_
      rintro e w8 ⟨rfl, n, rfl⟩
      go_wp2_with fail
      go_ret
      exact ⟨by simp, below_drawn b7 _⟩
    | true =>
      have hsz := b2.size
      go_wp2_with (at_builtin; go_must (refine wpList_append_own _ rfl (.tmp 93) (.tmp 95) 22 rfl w.heap.size 9 i0 (.string ByteArray.empty) 1 16 Yba.underlying22 hi hz0 hz1 hz2 rfl (by decide) (.slice none 0 0) 0 [] rfl (World.ownsRow_nil _ _ _ _) ⟨w2.heap.size, 0, none⟩ 1 1 [.string s] rfl rfl (cell_one_new _ _ _) (fun u hu => by simp at hu; subst hu; rfl) (by unfold maxLen; omega) (by omega) (by simp; omega) ?_))
      intro v' w4 hown4 hgrow4 hnil4
      have hb4 : Below w.heap.size w w4 := (b2.alloc hsz _).grown hgrow4 (by simp; omega) (fun q hq => by cases hq)
      obtain ⟨g, cap, rfl, hcap⟩ : ∃ g cap, v' = .slice (some ⟨g, 0, none⟩) 1 cap ∧ 1 ≤ cap := by
        rcases hown4.2 with ⟨_, h⟩ | ⟨g, cap, _, h, _, _, h5, _⟩
        · omega
        · exact ⟨g, cap, by simpa using h, by omega⟩
      have hown5 : w4.ownsRow w.heap.size 9 1 (.slice (some ⟨g, 0, none⟩) 1 cap) 1 (sv [s]) := hown4
      clear hown4 hgrow4 hnil4 hown2 b2
      have b6 : Below w.heap.size w (w4.alloc (.cells #[.slice ra nr rc, .slice oa no oc] 24)) := hb4.alloc hb4.size _
      have Rr6 := Rr.below b6
      have Ro6 := Ro.below b6
      have Rh6 : Row (w4.alloc (.cells #[.slice ra nr rc, .slice oa no oc] 24)) (some ⟨g, 0, none⟩) [s] := Row.of_own (hown5.alloc _)
      go_wp2_with fail
      refine (fit_at ra oa (some ⟨g, 0, none⟩) req opt [s] nr no 1 rc oc cap _ Er.out Eo.out rfl (by omega) (by omega) (by omega) hcap Rr6 Ro6 Rh6).mono ?_
      rintro e w7 ⟨rfl, hb7⟩
      have b7 : Below w.heap.size w w7 := b6.trans (hb7.mono b6.size)
      have Rr7 := Rr.below b7
      have Ro7 := Ro.below b7
      have Rh7 := Rh6.below hb7
      clear hb7 Rr6 Ro6 Rh6 b6
      go_wp2_with fail
      refine (model_at ra oa (some ⟨g, 0, none⟩) req opt [s] nr no 1 rc oc cap _ Er.out Eo.out rfl (by omega) (by omega) (by omega) Rr7 Ro7 Rh7).mono ?_
      rintro e w8 ⟨rfl, n, rfl⟩
      go_wp2_with fail
      go_ret
      exact ⟨by simp, below_drawn b7 _⟩
  · have hp' : 0 < nr + no := by omega
    have hBg : w.heap.size < w2.heap.size := (hown2.lt w.heap.size rfl).2
    go_wp2_with (at_make; refine wpList_make_own _ rfl _ _ 22 rfl w.heap.size 9 i0 (.string ByteArray.empty) 1 Yba.underlying22 hi hz0 hz1 _ _ _ (np + nr + 1) rfl rfl (by omega) (by rw [hz2]; omega) (by unfold maxLen; omega) b2.size ?_)
    intro w3 hown3 hgrow3
    have hpool3 := hown2.kept hgrow3 (Or.inr (by simp [Value.ownBlock]))
    have b3 : Below w.heap.size w w3 := b2.grown hgrow3 b2.size (fun k hk => by cases hk)
    clear hown2 hgrow3 b2
    generalize w2.heap.size = g at *
    have hne : w.heap.size ≠ g := by omega
    have HG : Hid (w.heap.size ≠ g) := hne
    clear hne
    go_wp2
    go_loopw [12, 13] (fun v i wr => ∃ (k : Nat) (h : List ByteArray), k ≤ nr ∧ i = .int .i64 k ∧ h.length ≤ k ∧ v = .slice (some ⟨g, 0, none⟩) h.length (np + nr + 1) ∧ wr.ownsRow w.heap.size 9 1 (.slice (some ⟨g, 0, none⟩) h.length (np + nr + 1)) h.length (sv h) ∧
        wr.ownsRow w.heap.size 9 1 (.slice (some ⟨w.heap.size, 0, none⟩) (nr + no) (nr + no)) (nr + no) (sv (req ++ opt)) ∧ Below w.heap.size w wr) (fun _ i _ => nr - (intOf i).toNat)
    case atStart => exact ⟨0, [], Nat.zero_le _, rfl, Nat.zero_le _, rfl, hown3, hpool3, b3⟩
    case round =>
      clear hown3 hpool3 b3
      obtain ⟨k, h, hk, rfl, hhl, rfl, hown, hpool, hb⟩ := hrel
      have Rr2 := Rr.below hb
      by_cases hlt : k < nr
      · have hlr : k < req.length := by rw [Er.out]; exact hlt
        rcases Rr2 with hnil | ⟨b, off, rfl, hcells⟩
        · rw [hnil] at hlr; simp at hlr
        · have hck := hcells k hlr
          clear hcells
          generalize req[k] = x at *
          have Rh := Row.of_own hown
          have hlh : h.length ≤ 1000000 := by omega
          go_wp2_with fail
          refine (in_at (some ⟨g, 0, none⟩) h h.length (np + nr + 1) x _ rfl hlh Rh).mono ?_
          rintro e w' ⟨rfl, rfl⟩
          cases hasB h x with
          | true =>
            go_wp2_with fail
            go_roundw
            case rel => exact ⟨k + 1, h, by omega, by go_num, by omega, rfl, hown, hpool, hb⟩
            case measure => simp [intOf]; omega
          | false =>
            have hsz := hb.size
            go_wp2_with (at_builtin; go_must (refine wpList_append_fits _ rfl (.tmp 65) (.tmp 70) 22 rfl w.heap.size 9 i0 1 Yba.underlying22 hi hz1 g h.length (np + nr + 1) (sv h) rfl (hown.alloc _) ⟨w'.heap.size, 0, none⟩ 1 1 [.string x] rfl rfl (cell_one_new _ _ _) (fun u hu => by simp at hu; subst hu; rfl) (by omega) ?_))
            intro w4 hown4 hgrow4
            have hpool4 := (hpool.alloc (.cells #[.string x] 9)).kept hgrow4 (Or.inr (by simp [Value.ownBlock]; exact HG.out))
            have hb4 : Below w.heap.size w w4 := (hb.alloc hsz _).grown hgrow4 (by simp; omega) (fun q hq => by cases hq; exact Nat.le_of_lt hBg)
            have hown5 : w4.ownsRow w.heap.size 9 1 (.slice (some ⟨g, 0, none⟩) (h ++ [x]).length (np + nr + 1)) (h ++ [x]).length (sv (h ++ [x])) := by
              rw [sv_append, List.length_append]; exact hown4
            go_wp2_with fail
            go_roundw
            case rel => exact ⟨k + 1, h ++ [x], by omega, by go_num, by rw [List.length_append]; simp; omega, by simp, hown5, hpool4, hb4⟩
            case measure => simp [intOf]; omega
      · have hhl2 : h.length ≤ nr := by omega
        clear Rr2 hhl
        go_wp2
        go_loopw [12, 14] (fun v i wr => ∃ (k : Nat) (h : List ByteArray), k ≤ np ∧ i = .int .i64 k ∧ h.length ≤ nr + k ∧ v = .slice (some ⟨g, 0, none⟩) h.length (np + nr + 1) ∧ wr.ownsRow w.heap.size 9 1 (.slice (some ⟨g, 0, none⟩) h.length (np + nr + 1)) h.length (sv h) ∧
            wr.ownsRow w.heap.size 9 1 (.slice (some ⟨w.heap.size, 0, none⟩) (nr + no) (nr + no)) (nr + no) (sv (req ++ opt)) ∧ Below w.heap.size w wr) (fun _ i _ => np - (intOf i).toNat)
        case atStart => exact ⟨0, h, Nat.zero_le _, rfl, by omega, rfl, hown, hpool, hb⟩
        case round =>
          clear hown hpool hb hlt hk hhl2
          obtain ⟨q, h, hq, rfl, hhl, rfl, hown, hpool, hb⟩ := hrel
          have Rp2 := Rp.below hb
          by_cases hlt : q < np
          · have hlp : q < picks.length := by rw [Ep.out]; exact hlt
            rcases Rp2 with hnil | ⟨b, off, rfl, hcells⟩
            · rw [hnil] at hlp; simp at hlp
            · obtain ⟨hck, hx0, hx1⟩ := hcells q hlp
              clear hcells
              generalize picks[q] = x at *
              have hpos : (0 : Int) < (nr : Int) + (no : Int) := by omega
              have hix0 : 0 ≤ x % ((nr : Int) + (no : Int)) := Int.emod_nonneg _ (by omega)
              have hix1 : x % ((nr : Int) + (no : Int)) < (nr : Int) + (no : Int) := Int.emod_lt_of_pos _ hpos
              have hln : (req ++ opt).length = nr + no := by rw [List.length_append, Er.out, Eo.out]
              obtain ⟨y, hpc⟩ := own_cell_ex hpool (x % ((nr : Int) + (no : Int))).toNat (by rw [hln]; omega)
              clear hln hpos
              have hsz := hb.size
              go_wp2_with (at_builtin; go_must (refine wpList_append_fits _ rfl (.tmp 78) (.tmp 90) 22 rfl w.heap.size 9 i0 1 Yba.underlying22 hi hz1 g h.length (np + nr + 1) (sv h) rfl (hown.alloc _) ⟨wr.heap.size, 0, none⟩ 1 1 [.string y] rfl rfl (cell_one_new _ _ _) (fun u hu => by simp at hu; subst hu; rfl) (by omega) ?_))
              intro w4 hown4 hgrow4
              have hpool4 := (hpool.alloc (.cells #[.string y] 9)).kept hgrow4 (Or.inr (by simp [Value.ownBlock]; exact HG.out))
              have hb4 : Below w.heap.size w w4 := (hb.alloc hsz _).grown hgrow4 (by simp; omega) (fun q hq => by cases hq; exact Nat.le_of_lt hBg)
              have hown5 : w4.ownsRow w.heap.size 9 1 (.slice (some ⟨g, 0, none⟩) (h ++ [y]).length (np + nr + 1)) (h ++ [y]).length (sv (h ++ [y])) := by
                rw [sv_append, List.length_append]; exact hown4
              go_wp2_with fail
              go_roundw
              case rel => exact ⟨q + 1, h ++ [y], by omega, by go_num, by rw [List.length_append]; simp; omega, by simp, hown5, hpool4, hb4⟩
              case measure => simp [intOf]; omega
          · have hh4 : h.length ≤ 2048 := by omega
            have hhc : h.length ≤ np + nr := by omega
            clear Rp2
            cases ws with
            | false =>
              have b6 : Below w.heap.size w (wr.alloc (.cells #[.slice ra nr rc, .slice oa no oc] 24)) := hb.alloc hb.size _
              have Rr6 := Rr.below b6
              have Ro6 := Ro.below b6
              have Rh6 : Row (wr.alloc (.cells #[.slice ra nr rc, .slice oa no oc] 24)) (some ⟨g, 0, none⟩) h := Row.of_own (hown.alloc _)
              go_wp2_with fail
              refine (fit_at ra oa (some ⟨g, 0, none⟩) req opt h nr no h.length rc oc (np + nr + 1) _ Er.out Eo.out rfl (by omega) (by omega) (by omega) (by omega) Rr6 Ro6 Rh6).mono ?_
              rintro e w7 ⟨rfl, hb7⟩
              have b7 : Below w.heap.size w w7 := b6.trans (hb7.mono b6.size)
              have Rr7 := Rr.below b7
              have Ro7 := Ro.below b7
              have Rh7 := Rh6.below hb7
              clear hb7 Rr6 Ro6 Rh6 b6
              go_wp2_with fail
              refine (model_at ra oa (some ⟨g, 0, none⟩) req opt h nr no h.length rc oc (np + nr + 1) _ Er.out Eo.out rfl (by omega) (by omega) (by omega) Rr7 Ro7 Rh7).mono ?_
              rintro e w8 ⟨rfl, n, rfl⟩
              go_wp2_with fail
              go_ret
              exact ⟨by simp, below_drawn b7 _⟩
            | true =>
              have hsz := hb.size
              go_wp2_with (at_builtin; go_must (refine wpList_append_fits _ rfl (.tmp 93) (.tmp 95) 22 rfl w.heap.size 9 i0 1 Yba.underlying22 hi hz1 g h.length (np + nr + 1) (sv h) rfl (hown.alloc _) ⟨wr.heap.size, 0, none⟩ 1 1 [.string s] rfl rfl (cell_one_new _ _ _) (fun u hu => by simp at hu; subst hu; rfl) (by omega) ?_))
              intro w4 hown4 hgrow4
              have hb4 : Below w.heap.size w w4 := (hb.alloc hsz _).grown hgrow4 (by simp; omega) (fun q hq => by cases hq; exact Nat.le_of_lt hBg)
              have hown5 : w4.ownsRow w.heap.size 9 1 (.slice (some ⟨g, 0, none⟩) (h.length + 1) (np + nr + 1)) (h.length + 1) (sv (h ++ [s])) := by
                rw [sv_append]; exact hown4
              have hlen5 : (h ++ [s]).length = h.length + 1 := by simp
              have HL5 : Hid ((h ++ [s]).length = h.length + 1) := hlen5
              clear hlen5 hown4 hgrow4 hown hpool hb
              have b6 : Below w.heap.size w (w4.alloc (.cells #[.slice ra nr rc, .slice oa no oc] 24)) := hb4.alloc hb4.size _
              have Rr6 := Rr.below b6
              have Ro6 := Ro.below b6
              have Rh6 : Row (w4.alloc (.cells #[.slice ra nr rc, .slice oa no oc] 24)) (some ⟨g, 0, none⟩) (h ++ [s]) := Row.of_own (hown5.alloc _)
              go_wp2_with fail
              refine (fit_at ra oa (some ⟨g, 0, none⟩) req opt (h ++ [s]) nr no (h.length + 1) rc oc (np + nr + 1) _ Er.out Eo.out HL5.out (by omega) (by omega) (by omega) (by omega) Rr6 Ro6 Rh6).mono ?_
              rintro e w7 ⟨rfl, hb7⟩
              have b7 : Below w.heap.size w w7 := b6.trans (hb7.mono b6.size)
              have Rr7 := Rr.below b7
              have Ro7 := Ro.below b7
              have Rh7 := Rh6.below hb7
              clear hb7 Rr6 Ro6 Rh6 b6
              go_wp2_with fail
              refine (model_at ra oa (some ⟨g, 0, none⟩) req opt (h ++ [s]) nr no (h.length + 1) rc oc (np + nr + 1) _ Er.out Eo.out HL5.out (by omega) (by omega) (by omega) Rr7 Ro7 Rh7).mono ?_
              rintro e w8 ⟨rfl, n, rfl⟩
              go_wp2_with fail
              go_ret
              exact ⟨by simp, below_drawn b7 _⟩
end Go.Proofs.Ybulkbllu
