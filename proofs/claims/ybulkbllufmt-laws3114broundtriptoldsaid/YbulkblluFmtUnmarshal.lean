/-
  THE CONTRACTS of Profile.UnmarshalText: at a word of the table (its profile is stored, nil is returned); at "none" (an error comes back, nothing that was there has turned).
-/
import Derived.Test.YbulkblluFmtErrorf
import Derived.Test.YbulkblluFmtShelf
namespace Go.Proofs.YbulkblluFmt
open Go.Extern.Stop Go.Stop Go.Extern Go.RowKit
attribute [local go_sem] Ybaf.guard Ybaf.call11 Ybaf.fmt1r Ybaf.op9_115w Ybaf.ptr46 Ybaf.elem46

set_option maxHeartbeats 400000 in
theorem unm_one (pb tb n cap : Nat) (v0 : Value) (w : World) (T : Table w) (hp : w.cell? ⟨pb, 0, none⟩ = some v0) (hf : w.frozen? ⟨pb, 0, none⟩ = false)
    (hconv : (convert 29 9 (.slice (some ⟨tb, 0, none⟩) n cap)).run Ybaf.prog w = .ok (.string ⟨#[115, 122, 115, 101, 45, 109, 97, 105, 110]⟩) w) :
    Calls Ybaf.prog 7 #[.pointer (some ⟨pb, 0, none⟩), .slice (some ⟨tb, 0, none⟩) n cap] w fun e w' => e = .returned .nilIface ∧ w' = w.setCell ⟨pb, 0, none⟩ (.int .i64 1) := by
  obtain ⟨c0, c1, c2, c3⟩ := T
  go_enter Ybaf.func7, Ybaf.ntmps7
  go_wp2
  go_loop [11] (fun i => ∃ k : Nat, k < 1 ∧ i = .int .i64 k) (fun i => 1 - (intOf i).toNat)
  case atStart => exact ⟨0, by omega, rfl⟩
  case round =>
    obtain ⟨k, hk, rfl⟩ := hrel
    obtain rfl : k = 0 := by omega
    go_wp2
    go_ret
    exact ⟨rfl, rfl⟩

set_option maxHeartbeats 400000 in
theorem unm_two (pb tb n cap : Nat) (v0 : Value) (w : World) (T : Table w) (hp : w.cell? ⟨pb, 0, none⟩ = some v0) (hf : w.frozen? ⟨pb, 0, none⟩ = false)
    (hconv : (convert 29 9 (.slice (some ⟨tb, 0, none⟩) n cap)).run Ybaf.prog w = .ok (.string ⟨#[115, 122, 115, 101, 45, 99, 104, 105, 110, 101, 120, 116]⟩) w) :
    Calls Ybaf.prog 7 #[.pointer (some ⟨pb, 0, none⟩), .slice (some ⟨tb, 0, none⟩) n cap] w fun e w' => e = .returned .nilIface ∧ w' = w.setCell ⟨pb, 0, none⟩ (.int .i64 2) := by
  obtain ⟨c0, c1, c2, c3⟩ := T
  go_enter Ybaf.func7, Ybaf.ntmps7
  go_wp2
  go_loop [11] (fun i => ∃ k : Nat, k < 2 ∧ i = .int .i64 k) (fun i => 2 - (intOf i).toNat)
  case atStart => exact ⟨0, by omega, rfl⟩
  case round =>
    obtain ⟨k, hk, rfl⟩ := hrel
    rcases (show k = 0 ∨ k = 1 from by omega) with rfl | rfl
    · go_wp2
      go_round
      case rel => exact ⟨1, by omega, rfl⟩
      case measure => simp [intOf]
    · go_wp2
      go_ret
      exact ⟨rfl, rfl⟩

set_option maxHeartbeats 400000 in
theorem unm_three (pb tb n cap : Nat) (v0 : Value) (w : World) (T : Table w) (hp : w.cell? ⟨pb, 0, none⟩ = some v0) (hf : w.frozen? ⟨pb, 0, none⟩ = false)
    (hconv : (convert 29 9 (.slice (some ⟨tb, 0, none⟩) n cap)).run Ybaf.prog w = .ok (.string ⟨#[115, 115, 101, 45, 115, 116, 97, 114]⟩) w) :
    Calls Ybaf.prog 7 #[.pointer (some ⟨pb, 0, none⟩), .slice (some ⟨tb, 0, none⟩) n cap] w fun e w' => e = .returned .nilIface ∧ w' = w.setCell ⟨pb, 0, none⟩ (.int .i64 3) := by
  obtain ⟨c0, c1, c2, c3⟩ := T
  go_enter Ybaf.func7, Ybaf.ntmps7
  go_wp2
  go_loop [11] (fun i => ∃ k : Nat, k < 3 ∧ i = .int .i64 k) (fun i => 3 - (intOf i).toNat)
  case atStart => exact ⟨0, by omega, rfl⟩
  case round =>
    obtain ⟨k, hk, rfl⟩ := hrel
    rcases (show k = 0 ∨ k = 1 ∨ k = 2 from by omega) with rfl | rfl | rfl
    · go_wp2
      go_round
      case rel => exact ⟨1, by omega, rfl⟩
      case measure => simp [intOf]
    · go_wp2
      go_round
      case rel => exact ⟨2, by omega, rfl⟩
      case measure => simp [intOf]
    · go_wp2
      go_ret
      exact ⟨rfl, rfl⟩

/-- The bytes of "none" as numbers. -/
def noneNums : List Int := [110, 111, 110, 101]
/-- The three words that UnmarshalText names. -/
def threeB : List ByteArray := [⟨#[115, 122, 115, 101, 45, 109, 97, 105, 110]⟩, ⟨#[115, 122, 115, 101, 45, 99, 104, 105, 110, 101, 120, 116]⟩, ⟨#[115, 115, 101, 45, 115, 116, 97, 114]⟩]

/-- What Join makes of them. -/
def joined : ByteArray := ⟨(Lib.join (threeB.map (·.data.toList)) [44, 32]).toArray⟩
theorem join_three (w : World) (hj : ∀ (j : Nat) x, threeB[j]? = some x → w.cell? ⟨0, 1 + j, none⟩ = some (.string x)) (hb0 : 0 < w.heap.size) :
    Calls Ybaf.prog 10 #[.slice (some ⟨0, 1, none⟩) 3 3, .string ⟨#[44, 32]⟩] w fun e w' => e = .returned (.string joined) ∧ Below w.heap.size w w' :=
  Ybaf.strings_Join 0 1 3 threeB ⟨#[44, 32]⟩ w hj hb0 (by decide) (by decide) (by decide +kernel)

set_option maxHeartbeats 400000 in
theorem unm_none (F : Interp) (pb tb cap : Nat) (w : World) (T : Table w) (hF : F.answers w.tape)
    (hcells : ∀ j v, (noneNums.map (Value.int .u8))[j]? = some v → w.cell? ((⟨tb, 0, none⟩ : Addr).add j) = some v)
    (hconv : (convert 29 9 (.slice (some ⟨tb, 0, none⟩) 4 cap)).run Ybaf.prog w = .ok (.string ⟨#[110, 111, 110, 101]⟩) w) :
    Calls Ybaf.prog 7 #[.pointer (some ⟨pb, 0, none⟩), .slice (some ⟨tb, 0, none⟩) 4 cap] w fun e w' => (∃ x, e = .returned (.iface 46 x)) ∧ Below w.heap.size w w' := by
  have T0 := T
  obtain ⟨c0, c1, c2, c3⟩ := T
  go_enter Ybaf.func7, Ybaf.ntmps7
  go_wp2
  go_loop [11] (fun i => ∃ k : Nat, k ≤ 3 ∧ i = .int .i64 k) (fun i => 3 - (intOf i).toNat)
  case atStart => exact ⟨0, by omega, rfl⟩
  case round =>
    obtain ⟨k, hk, rfl⟩ := hrel
    rcases (show k = 0 ∨ k = 1 ∨ k = 2 ∨ k = 3 from by omega) with rfl | rfl | rfl | rfl
    · go_wp2
      go_round
      case rel => exact ⟨1, by omega, rfl⟩
      case measure => simp [intOf]
    · go_wp2
      go_round
      case rel => exact ⟨2, by omega, rfl⟩
      case measure => simp [intOf]
    · go_wp2
      go_round
      case rel => exact ⟨3, by omega, rfl⟩
      case measure => simp [intOf]
    · have hb0 : 0 < w.heap.size := World.block_lt_of_cell? _ _ c0
      have hj : ∀ (j : Nat) x, threeB[j]? = some x → w.cell? ⟨0, 1 + j, none⟩ = some (.string x) := by
        intro j x h
        match j, h with
        | 0, h => cases h; exact c1
        | 1, h => cases h; exact c2
        | 2, h => cases h; exact c3
      have HC : Hid (∀ j v, (noneNums.map (Value.int .u8))[j]? = some v → w.cell? ((⟨tb, 0, none⟩ : Addr).add j) = some v) := hcells
      have HT : Hid (F.answers w.tape) := hF
      clear hcells hF
      go_wp2_with fail
      refine (join_three w hj hb0).mono ?_
      rintro e w1 ⟨rfl, hb1⟩
      clear hj c0 c1 c2 c3 T0
      generalize joined = J
      have hb2 : Below w.heap.size w (w1.alloc (.cells #[.iface 29 (.slice (some ⟨tb, 0, none⟩) 4 cap), .iface 9 (.string J)] 20)) := hb1.alloc hb1.size _
      have hop := Ybaf.opBytes "fmt.errorf" ⟨tb, 0, none⟩ cap noneNums (w1.alloc (.cells #[.iface 29 (.slice (some ⟨tb, 0, none⟩) 4 cap), .iface 9 (.string J)] 20)) (fun j v h => by
        have hc := HC.out j v h
        rw [hb2.cell (World.block_lt_of_cell? _ _ hc)]; exact hc)
      obtain ⟨x, y, hop⟩ := hop
      have hop1 : (FmtStop.operand "fmt.errorf" true 113 false (.iface 29 (.slice (some ⟨tb, 0, none⟩) 4 cap))).run Ybaf.prog (w1.alloc (.cells #[.iface 29 (.slice (some ⟨tb, 0, none⟩) 4 cap), .iface 9 (.string J)] 20)) = .ok (x, y) (w1.alloc (.cells #[.iface 29 (.slice (some ⟨tb, 0, none⟩) 4 cap), .iface 9 (.string J)] 20)) := hop
      have hF1 := answers_open (show F.answers w1.tape by rw [hb1.tape]; exact HT.out)
      have HB : Hid (Below w.heap.size w w1) := hb1
      clear hb1 hb2 hop HC HT hconv
      go_wp2
      go_ret
      exact ⟨⟨_, rfl⟩, ((HB.out.alloc HB.out.size _).alloc (Nat.le_trans HB.out.size (by simp)) _).drew⟩
end Go.Proofs.YbulkblluFmt
