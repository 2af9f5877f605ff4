/-
  THE CONTRACT of container/heap.Fix on a line that holds one event, at place 0: nothing is moved.
-/
import Derived.Test.YbulkblnkTime
namespace Go.Proofs.Ybulkblnk
open Go.RowKit

set_option maxRecDepth 100000 in
theorem wrapChk (a : Addr) (s : String) (w : World) : (Builtin.ssaWrapNilChk_ #[64] 64 #[.pointer (some a), strVal "", strVal s]).run Yba.prog w = .ok (.pointer (some a)) w := by rfl
theorem recv (a : Addr) (wr : Option String) (w : World) : (receiverAt 64 (.val (.pointer (some a))) false wr).run Yba.prog w = (loadVar 49 a).run Yba.prog w := by
  unfold receiverAt
  cases wr <;> simp [run_underlying Yba.underlying64, Place.get, wrapChk, asAddr]
def mLen : Method := { name := "Len", sig := 68, path := #[], func := some (48, false) }
theorem find_len : Yba.t64.methods.find? (fun m => m.name == "Len") = some mLen := by rfl
theorem info64 (w : World) : (typeInfo 64).run Yba.prog w = .ok Yba.t64 w := by kernel_rfl
set_option maxRecDepth 100000 in
theorem len_method (qb : Nat) (sa : Option Addr) (n c : Nat) (w : World) (hc : w.cell? ⟨qb, 0, none⟩ = some (.slice sa n c)) : (method 223 64 (.pointer (some ⟨qb, 0, none⟩)) "Len").run Yba.prog w = .ok (48, .slice sa n c) w := by
  unfold method
  simp only [Sem.run_bind, info64, Result.andThen_ok, find_len]
  simp only [mLen, follow, Sem.run_bind, Sem.run_pure, Result.andThen_ok, recv]
  simp [go_sem, hc]
set_option maxHeartbeats 400000 in
theorem down_one (v : Value) (w : World) : Calls Yba.prog 20 #[v, .int .i64 0, .int .i64 1] w fun e w' => e = .returned (.bool false) ∧ w' = w := by
  go_enter Yba.func20, Yba.ntmps20
  go_wp2
  go_loop [7, 8, 9, 10] (fun i _ _ _ => i = .int .i64 0) (fun _ _ _ _ => 0)
  case atStart => rfl
  case round =>
    subst hrel
    go_wp2
    go_ret
    exact ⟨rfl, rfl⟩
set_option maxHeartbeats 400000 in
theorem up_one (v : Value) (w : World) : Calls Yba.prog 21 #[v, .int .i64 0] w fun e w' => e = .returned (.tuple #[]) ∧ w' = w := by
  go_enter Yba.func21, Yba.ntmps21
  go_wp2
  go_loop [1, 4] (fun j _ => j = .int .i64 0) (fun _ _ => 0)
  case atStart => rfl
  case round =>
    subst hrel
    go_wp2
    go_end0
    exact ⟨rfl, rfl⟩
set_option maxRecDepth 100000 in
set_option maxHeartbeats 400000 in
theorem fix_one (qb : Nat) (sa : Option Addr) (sc : Nat) (w : World) (hc : w.cell? ⟨qb, 0, none⟩ = some (.slice sa 1 sc)) : Calls Yba.prog 17 #[.iface 64 (.pointer (some ⟨qb, 0, none⟩)), .int .i64 0] w fun e w' => e = .returned (.tuple #[]) ∧ w' = w := by
  have hm := len_method qb sa 1 sc w hc
  go_enter Yba.func17, Yba.ntmps17
  go_wp2_with (first | (go_at_call 20; refine Calls.mono (down_one _ _) ?_; rintro e w' ⟨rfl, rfl⟩) | (go_at_call 21; refine Calls.mono (up_one _ _) ?_; rintro e w' ⟨rfl, rfl⟩) | go_in)
  go_end0
  exact ⟨rfl, rfl⟩
end Go.Proofs.Ybulkblnk
