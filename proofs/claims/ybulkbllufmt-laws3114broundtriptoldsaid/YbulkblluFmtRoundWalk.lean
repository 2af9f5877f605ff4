/-
  THE WALK of LawS3114BRoundTrip.
-/
import Derived.Test.YbulkblluFmtUnmarshal
namespace Go.Proofs.YbulkblluFmt
open Go.Extern.Stop Go.Stop Go.Extern Go.RowKit

theorem Table.below {w w' : World} (T : Table w) (hb : Below w.heap.size w w') : Table w' := by
  have h0 : 0 < w.heap.size := World.block_lt_of_cell? _ _ T.c0
  exact ⟨(hb.cell (by exact h0)).trans T.c0, (hb.cell (by exact h0)).trans T.c1, (hb.cell (by exact h0)).trans T.c2, (hb.cell (by exact h0)).trans T.c3⟩

theorem str0 (w : World) (T : Table w) : Calls Ybaf.prog 5 #[.int .i64 0] w fun e w' => e = .returned (.string ⟨#[110, 111, 110, 101]⟩) ∧ w' = w := by
  obtain ⟨c0, c1, c2, c3⟩ := T
  go_enter Ybaf.func5, Ybaf.ntmps5
  go_wp2
  go_ret
  exact ⟨rfl, rfl⟩
theorem str1 (w : World) (T : Table w) : Calls Ybaf.prog 5 #[.int .i64 1] w fun e w' => e = .returned (.string ⟨#[115, 122, 115, 101, 45, 109, 97, 105, 110]⟩) ∧ w' = w := by
  obtain ⟨c0, c1, c2, c3⟩ := T
  go_enter Ybaf.func5, Ybaf.ntmps5
  go_wp2
  go_ret
  exact ⟨rfl, rfl⟩
theorem str2 (w : World) (T : Table w) : Calls Ybaf.prog 5 #[.int .i64 2] w fun e w' => e = .returned (.string ⟨#[115, 122, 115, 101, 45, 99, 104, 105, 110, 101, 120, 116]⟩) ∧ w' = w := by
  obtain ⟨c0, c1, c2, c3⟩ := T
  go_enter Ybaf.func5, Ybaf.ntmps5
  go_wp2
  go_ret
  exact ⟨rfl, rfl⟩
theorem str3 (w : World) (T : Table w) : Calls Ybaf.prog 5 #[.int .i64 3] w fun e w' => e = .returned (.string ⟨#[115, 115, 101, 45, 115, 116, 97, 114]⟩) ∧ w' = w := by
  obtain ⟨c0, c1, c2, c3⟩ := T
  go_enter Ybaf.func5, Ybaf.ntmps5
  go_wp2
  go_ret
  exact ⟨rfl, rfl⟩

/-- '[]byte(s)': a new block that holds the bytes of s; a capacity that the tape gives; and back: 'string(b)'. -/
theorem conv_facts (s : ByteArray) (w : World) : ∃ (cap : Nat) (o : Obj), (convert 9 29 (.string s)).run Ybaf.prog w = .ok (.slice (some ⟨w.heap.size, 0, none⟩) s.size cap) (w.alloc o).drew ∧
    (∀ j v, ((s.data.toList.map fun b => (b.toNat : Int)).map (Value.int .u8))[j]? = some v → (w.alloc o).drew.cell? ((⟨w.heap.size, 0, none⟩ : Addr).add j) = some v) ∧
    (convert 29 9 (.slice (some ⟨w.heap.size, 0, none⟩) s.size cap)).run Ybaf.prog (w.alloc o).drew = .ok (.string s) (w.alloc o).drew := by
  have h := run_bytes_of_string (P := Ybaf.prog) w 9 29 5 s Ybaf.underlying9 Ybaf.underlying29 Ybaf.underlying5
  have hcell : ∀ j (hj : j < s.data.toList.length), (w.alloc (.cells (bytesRow s (grownCap w s.size 0 5)) 5 ((bytesRow s (grownCap w s.size 0 5)).size, (bytesRow s (grownCap w s.size 0 5)).size + 1))).drew.cell? ((⟨w.heap.size, 0, none⟩ : Addr).add j) = some (.int .u8 (s.data.toList[j].toNat : Int)) := by
    intro j hj
    rw [Addr.add_lit, Nat.zero_add]
    show (w.alloc _).cell? _ = _
    rw [cell_of_row (w.alloc _) w.heap.size j _ _ _ (heap_alloc_new w _)]
    unfold bytesRow
    rw [Array.getElem?_append_left (by simpa using hj)]
    simp only [Array.getElem?_map, Array.length_toList] at hj ⊢
    rw [Array.getElem?_eq_getElem hj]
    simp
  refine ⟨_, _, h, fun j v hv => ?_, ?_⟩
  · have hj : j < s.data.toList.length := by
      have := (List.getElem?_eq_some_iff.1 hv).1
      simpa using this
    have e := hcell j hj
    simp only [List.map_map, List.getElem?_map, List.getElem?_eq_getElem hj] at hv
    refine e.trans ?_
    simpa using hv
  · have hb := run_convert_bytes_back (P := Ybaf.prog) (w.alloc (.cells (bytesRow s (grownCap w s.size 0 5)) 5 ((bytesRow s (grownCap w s.size 0 5)).size, (bytesRow s (grownCap w s.size 0 5)).size + 1))).drew 29 9 5 ⟨w.heap.size, 0, none⟩ (grownCap w s.size 0 5) s.data.toList Ybaf.underlying29 Ybaf.underlying5 Ybaf.underlying9 hcell
    have e1 : s.data.toList.length = s.size := by simp
    rw [e1] at hb
    exact hb

set_option maxHeartbeats 400000 in
theorem round_one (F : Interp) (x : Int) (w : World) (hx0 : 0 ≤ x) (hx1 : x ≤ 255) (hm : x % 3 = 0) (T : Table w) (hF : F.answers w.tape) :
    Calls Ybaf.prog 4 #[.int .u8 x] w fun e w' => e = .returned (.bool true) ∧ Below w.heap.size w w' := by
  have b1 : Below w.heap.size w (w.alloc (.cells #[.int .i64 7] 22)) := (Below.refl _ _).alloc (Nat.le_refl _) _
  have T1 := T.below b1
  have HF : Hid (F.answers w.tape) := hF
  obtain ⟨cap, o, hc, _, hback⟩ := conv_facts ⟨#[115, 122, 115, 101, 45, 109, 97, 105, 110]⟩ (w.alloc (.cells #[.int .i64 7] 22))
  have b2 : Below w.heap.size w ((w.alloc (.cells #[.int .i64 7] 22)).alloc o).drew := (b1.alloc b1.size o).drew
  have T2 := T.below b2
  have hback1 : (convert 29 9 (.slice (some ⟨w.heap.size + 1, 0, none⟩) 9 cap)).run Ybaf.prog ((w.alloc (.cells #[.int .i64 7] 22)).alloc o).drew = .ok (.string ⟨#[115, 122, 115, 101, 45, 109, 97, 105, 110]⟩) ((w.alloc (.cells #[.int .i64 7] 22)).alloc o).drew := by
    have := hback
    rw [World.size_alloc] at this
    exact this
  have HB : Hid ((convert 29 9 (.slice (some ⟨w.heap.size + 1, 0, none⟩) 9 cap)).run Ybaf.prog ((w.alloc (.cells #[.int .i64 7] 22)).alloc o).drew = .ok (.string ⟨#[115, 122, 115, 101, 45, 109, 97, 105, 110]⟩) ((w.alloc (.cells #[.int .i64 7] 22)).alloc o).drew) := hback1
  have HB2 : Hid (Below w.heap.size w ((w.alloc (.cells #[.int .i64 7] 22)).alloc o).drew) := b2
  have hp2 : ((w.alloc (.cells #[.int .i64 7] 22)).alloc o).drew.cell? ⟨w.heap.size, 0, none⟩ = some (.int .i64 7) := by simp
  have hz2 : ((w.alloc (.cells #[.int .i64 7] 22)).alloc o).drew.frozen? ⟨w.heap.size, 0, none⟩ = false := by simp
  clear hback hback1 b1 b2 hF
  go_enter Ybaf.func4, Ybaf.ntmps4
  go_wp2_with fail
  refine (str1 _ T1).mono ?_
  rintro e w1 ⟨rfl, rfl⟩
  go_wp2_with fail
  refine (unm_one w.heap.size (w.heap.size + 1) 9 cap (.int .i64 7) _ T2 hp2 hz2 HB.out).mono ?_
  rintro e w3 ⟨rfl, hw3⟩
  have b3 : Below w.heap.size w w3 := by rw [hw3]; exact HB2.out.setCell (Nat.le_refl _) _
  have hq : w3.cell? ⟨w.heap.size, 0, none⟩ = some (.int .i64 1) := by rw [hw3]; exact World.cell?_setCell_same _ _ _ hp2
  clear hw3 HB2 HB T1 T2 hc hp2 hz2
  have b4 : Below w.heap.size w (w3.alloc (.cells #[.int .i64 9] 22)) := b3.alloc b3.size _
  have T4 := T.below b4
  obtain ⟨cap2, o2, hc2, hcells2, hback2⟩ := conv_facts ⟨#[110, 111, 110, 101]⟩ (w3.alloc (.cells #[.int .i64 9] 22))
  have b5 : Below w.heap.size w ((w3.alloc (.cells #[.int .i64 9] 22)).alloc o2).drew := (b4.alloc b4.size o2).drew
  have T5 := T.below b5
  have hF5 : F.answers ((w3.alloc (.cells #[.int .i64 9] 22)).alloc o2).drew.tape := by rw [b5.tape]; exact HF.out
  rw [World.size_alloc] at hcells2 hback2
  have HC : Hid (∀ j v, (noneNums.map (Value.int .u8))[j]? = some v → ((w3.alloc (.cells #[.int .i64 9] 22)).alloc o2).drew.cell? ((⟨w3.heap.size + 1, 0, none⟩ : Addr).add j) = some v) := hcells2
  have HB5 : Hid ((convert 29 9 (.slice (some ⟨w3.heap.size + 1, 0, none⟩) 4 cap2)).run Ybaf.prog ((w3.alloc (.cells #[.int .i64 9] 22)).alloc o2).drew = .ok (.string ⟨#[110, 111, 110, 101]⟩) ((w3.alloc (.cells #[.int .i64 9] 22)).alloc o2).drew) := hback2
  have HF5 : Hid (F.answers ((w3.alloc (.cells #[.int .i64 9] 22)).alloc o2).drew.tape) := hF5
  have HB6 : Hid (Below w.heap.size w ((w3.alloc (.cells #[.int .i64 9] 22)).alloc o2).drew) := b5
  clear hcells2 hback2 hF5 b4 b5 b3 HF
  go_wp2_with fail
  refine (str0 _ T4).mono ?_
  rintro e w1 ⟨rfl, rfl⟩
  go_wp2_with fail
  refine (unm_none F w3.heap.size (w3.heap.size + 1) cap2 _ T5 HF5.out HC.out HB5.out).mono ?_
  rintro e w6 ⟨⟨v, rfl⟩, hb6⟩
  have hr : w6.cell? ⟨w3.heap.size, 0, none⟩ = some (.int .i64 9) := by
    rw [hb6.cell (by simp; omega)]; simp
  have HB7 : Hid (Below w.heap.size w w6) := HB6.out.trans (hb6.mono HB6.out.size)
  clear hb6 HB6 HC HB5 HF5 T4 T5 hc2 hq
  go_wp2_with fail
  go_ret
  exact ⟨rfl, HB7.out⟩
set_option maxHeartbeats 400000 in
theorem round_two (F : Interp) (x : Int) (w : World) (hx0 : 0 ≤ x) (hx1 : x ≤ 255) (hm : x % 3 = 1) (T : Table w) (hF : F.answers w.tape) :
    Calls Ybaf.prog 4 #[.int .u8 x] w fun e w' => e = .returned (.bool true) ∧ Below w.heap.size w w' := by
  have b1 : Below w.heap.size w (w.alloc (.cells #[.int .i64 7] 22)) := (Below.refl _ _).alloc (Nat.le_refl _) _
  have T1 := T.below b1
  have HF : Hid (F.answers w.tape) := hF
  obtain ⟨cap, o, hc, _, hback⟩ := conv_facts ⟨#[115, 122, 115, 101, 45, 99, 104, 105, 110, 101, 120, 116]⟩ (w.alloc (.cells #[.int .i64 7] 22))
  have b2 : Below w.heap.size w ((w.alloc (.cells #[.int .i64 7] 22)).alloc o).drew := (b1.alloc b1.size o).drew
  have T2 := T.below b2
  have hback1 : (convert 29 9 (.slice (some ⟨w.heap.size + 1, 0, none⟩) 12 cap)).run Ybaf.prog ((w.alloc (.cells #[.int .i64 7] 22)).alloc o).drew = .ok (.string ⟨#[115, 122, 115, 101, 45, 99, 104, 105, 110, 101, 120, 116]⟩) ((w.alloc (.cells #[.int .i64 7] 22)).alloc o).drew := by
    have := hback
    rw [World.size_alloc] at this
    exact this
  have HB : Hid ((convert 29 9 (.slice (some ⟨w.heap.size + 1, 0, none⟩) 12 cap)).run Ybaf.prog ((w.alloc (.cells #[.int .i64 7] 22)).alloc o).drew = .ok (.string ⟨#[115, 122, 115, 101, 45, 99, 104, 105, 110, 101, 120, 116]⟩) ((w.alloc (.cells #[.int .i64 7] 22)).alloc o).drew) := hback1
  have HB2 : Hid (Below w.heap.size w ((w.alloc (.cells #[.int .i64 7] 22)).alloc o).drew) := b2
  have hp2 : ((w.alloc (.cells #[.int .i64 7] 22)).alloc o).drew.cell? ⟨w.heap.size, 0, none⟩ = some (.int .i64 7) := by simp
  have hz2 : ((w.alloc (.cells #[.int .i64 7] 22)).alloc o).drew.frozen? ⟨w.heap.size, 0, none⟩ = false := by simp
  clear hback hback1 b1 b2 hF
  go_enter Ybaf.func4, Ybaf.ntmps4
  go_wp2_with fail
  refine (str2 _ T1).mono ?_
  rintro e w1 ⟨rfl, rfl⟩
  go_wp2_with fail
  refine (unm_two w.heap.size (w.heap.size + 1) 12 cap (.int .i64 7) _ T2 hp2 hz2 HB.out).mono ?_
  rintro e w3 ⟨rfl, hw3⟩
  have b3 : Below w.heap.size w w3 := by rw [hw3]; exact HB2.out.setCell (Nat.le_refl _) _
  have hq : w3.cell? ⟨w.heap.size, 0, none⟩ = some (.int .i64 2) := by rw [hw3]; exact World.cell?_setCell_same _ _ _ hp2
  clear hw3 HB2 HB T1 T2 hc hp2 hz2
  have b4 : Below w.heap.size w (w3.alloc (.cells #[.int .i64 9] 22)) := b3.alloc b3.size _
  have T4 := T.below b4
  obtain ⟨cap2, o2, hc2, hcells2, hback2⟩ := conv_facts ⟨#[110, 111, 110, 101]⟩ (w3.alloc (.cells #[.int .i64 9] 22))
  have b5 : Below w.heap.size w ((w3.alloc (.cells #[.int .i64 9] 22)).alloc o2).drew := (b4.alloc b4.size o2).drew
  have T5 := T.below b5
  have hF5 : F.answers ((w3.alloc (.cells #[.int .i64 9] 22)).alloc o2).drew.tape := by rw [b5.tape]; exact HF.out
  rw [World.size_alloc] at hcells2 hback2
  have HC : Hid (∀ j v, (noneNums.map (Value.int .u8))[j]? = some v → ((w3.alloc (.cells #[.int .i64 9] 22)).alloc o2).drew.cell? ((⟨w3.heap.size + 1, 0, none⟩ : Addr).add j) = some v) := hcells2
  have HB5 : Hid ((convert 29 9 (.slice (some ⟨w3.heap.size + 1, 0, none⟩) 4 cap2)).run Ybaf.prog ((w3.alloc (.cells #[.int .i64 9] 22)).alloc o2).drew = .ok (.string ⟨#[110, 111, 110, 101]⟩) ((w3.alloc (.cells #[.int .i64 9] 22)).alloc o2).drew) := hback2
  have HF5 : Hid (F.answers ((w3.alloc (.cells #[.int .i64 9] 22)).alloc o2).drew.tape) := hF5
  have HB6 : Hid (Below w.heap.size w ((w3.alloc (.cells #[.int .i64 9] 22)).alloc o2).drew) := b5
  clear hcells2 hback2 hF5 b4 b5 b3 HF
  go_wp2_with fail
  refine (str0 _ T4).mono ?_
  rintro e w1 ⟨rfl, rfl⟩
  go_wp2_with fail
  refine (unm_none F w3.heap.size (w3.heap.size + 1) cap2 _ T5 HF5.out HC.out HB5.out).mono ?_
  rintro e w6 ⟨⟨v, rfl⟩, hb6⟩
  have hr : w6.cell? ⟨w3.heap.size, 0, none⟩ = some (.int .i64 9) := by
    rw [hb6.cell (by simp; omega)]; simp
  have HB7 : Hid (Below w.heap.size w w6) := HB6.out.trans (hb6.mono HB6.out.size)
  clear hb6 HB6 HC HB5 HF5 T4 T5 hc2 hq
  go_wp2_with fail
  go_ret
  exact ⟨rfl, HB7.out⟩
set_option maxHeartbeats 400000 in
theorem round_three (F : Interp) (x : Int) (w : World) (hx0 : 0 ≤ x) (hx1 : x ≤ 255) (hm : x % 3 = 2) (T : Table w) (hF : F.answers w.tape) :
    Calls Ybaf.prog 4 #[.int .u8 x] w fun e w' => e = .returned (.bool true) ∧ Below w.heap.size w w' := by
  have b1 : Below w.heap.size w (w.alloc (.cells #[.int .i64 7] 22)) := (Below.refl _ _).alloc (Nat.le_refl _) _
  have T1 := T.below b1
  have HF : Hid (F.answers w.tape) := hF
  obtain ⟨cap, o, hc, _, hback⟩ := conv_facts ⟨#[115, 115, 101, 45, 115, 116, 97, 114]⟩ (w.alloc (.cells #[.int .i64 7] 22))
  have b2 : Below w.heap.size w ((w.alloc (.cells #[.int .i64 7] 22)).alloc o).drew := (b1.alloc b1.size o).drew
  have T2 := T.below b2
  have hback1 : (convert 29 9 (.slice (some ⟨w.heap.size + 1, 0, none⟩) 8 cap)).run Ybaf.prog ((w.alloc (.cells #[.int .i64 7] 22)).alloc o).drew = .ok (.string ⟨#[115, 115, 101, 45, 115, 116, 97, 114]⟩) ((w.alloc (.cells #[.int .i64 7] 22)).alloc o).drew := by
    have := hback
    rw [World.size_alloc] at this
    exact this
  have HB : Hid ((convert 29 9 (.slice (some ⟨w.heap.size + 1, 0, none⟩) 8 cap)).run Ybaf.prog ((w.alloc (.cells #[.int .i64 7] 22)).alloc o).drew = .ok (.string ⟨#[115, 115, 101, 45, 115, 116, 97, 114]⟩) ((w.alloc (.cells #[.int .i64 7] 22)).alloc o).drew) := hback1
  have HB2 : Hid (Below w.heap.size w ((w.alloc (.cells #[.int .i64 7] 22)).alloc o).drew) := b2
  have hp2 : ((w.alloc (.cells #[.int .i64 7] 22)).alloc o).drew.cell? ⟨w.heap.size, 0, none⟩ = some (.int .i64 7) := by simp
  have hz2 : ((w.alloc (.cells #[.int .i64 7] 22)).alloc o).drew.frozen? ⟨w.heap.size, 0, none⟩ = false := by simp
  clear hback hback1 b1 b2 hF
  go_enter Ybaf.func4, Ybaf.ntmps4
  go_wp2_with fail
  refine (str3 _ T1).mono ?_
  rintro e w1 ⟨rfl, rfl⟩
  go_wp2_with fail
  refine (unm_three w.heap.size (w.heap.size + 1) 8 cap (.int .i64 7) _ T2 hp2 hz2 HB.out).mono ?_
  rintro e w3 ⟨rfl, hw3⟩
  have b3 : Below w.heap.size w w3 := by rw [hw3]; exact HB2.out.setCell (Nat.le_refl _) _
  have hq : w3.cell? ⟨w.heap.size, 0, none⟩ = some (.int .i64 3) := by rw [hw3]; exact World.cell?_setCell_same _ _ _ hp2
  clear hw3 HB2 HB T1 T2 hc hp2 hz2
  have b4 : Below w.heap.size w (w3.alloc (.cells #[.int .i64 9] 22)) := b3.alloc b3.size _
  have T4 := T.below b4
  obtain ⟨cap2, o2, hc2, hcells2, hback2⟩ := conv_facts ⟨#[110, 111, 110, 101]⟩ (w3.alloc (.cells #[.int .i64 9] 22))
  have b5 : Below w.heap.size w ((w3.alloc (.cells #[.int .i64 9] 22)).alloc o2).drew := (b4.alloc b4.size o2).drew
  have T5 := T.below b5
  have hF5 : F.answers ((w3.alloc (.cells #[.int .i64 9] 22)).alloc o2).drew.tape := by rw [b5.tape]; exact HF.out
  rw [World.size_alloc] at hcells2 hback2
  have HC : Hid (∀ j v, (noneNums.map (Value.int .u8))[j]? = some v → ((w3.alloc (.cells #[.int .i64 9] 22)).alloc o2).drew.cell? ((⟨w3.heap.size + 1, 0, none⟩ : Addr).add j) = some v) := hcells2
  have HB5 : Hid ((convert 29 9 (.slice (some ⟨w3.heap.size + 1, 0, none⟩) 4 cap2)).run Ybaf.prog ((w3.alloc (.cells #[.int .i64 9] 22)).alloc o2).drew = .ok (.string ⟨#[110, 111, 110, 101]⟩) ((w3.alloc (.cells #[.int .i64 9] 22)).alloc o2).drew) := hback2
  have HF5 : Hid (F.answers ((w3.alloc (.cells #[.int .i64 9] 22)).alloc o2).drew.tape) := hF5
  have HB6 : Hid (Below w.heap.size w ((w3.alloc (.cells #[.int .i64 9] 22)).alloc o2).drew) := b5
  clear hcells2 hback2 hF5 b4 b5 b3 HF
  go_wp2_with fail
  refine (str0 _ T4).mono ?_
  rintro e w1 ⟨rfl, rfl⟩
  go_wp2_with fail
  refine (unm_none F w3.heap.size (w3.heap.size + 1) cap2 _ T5 HF5.out HC.out HB5.out).mono ?_
  rintro e w6 ⟨⟨v, rfl⟩, hb6⟩
  have hr : w6.cell? ⟨w3.heap.size, 0, none⟩ = some (.int .i64 9) := by
    rw [hb6.cell (by simp; omega)]; simp
  have HB7 : Hid (Below w.heap.size w w6) := HB6.out.trans (hb6.mono HB6.out.size)
  clear hb6 HB6 HC HB5 HF5 T4 T5 hc2 hq
  go_wp2_with fail
  go_ret
  exact ⟨rfl, HB7.out⟩

theorem law_round (F : Interp) (x : Int) (w : World) (hx0 : 0 ≤ x) (hx1 : x ≤ 255) (T : Table w) (hF : F.answers w.tape) :
    Calls Ybaf.prog 4 #[.int .u8 x] w fun e w' => e = .returned (.bool true) ∧ Below w.heap.size w w' := by
  rcases (show x % 3 = 0 ∨ x % 3 = 1 ∨ x % 3 = 2 from by omega) with h | h | h
  · exact round_one F x w hx0 hx1 h T hF
  · exact round_two F x w hx0 hx1 h T hF
  · exact round_three F x w hx0 hx1 h T hF
end Go.Proofs.YbulkblluFmt
