import Derived.Test.Qxb6600330aMake
import Derived.WalkSmall
namespace Go.Proofs.Qxb6600330a
open Go.RowKit
set_option linter.unusedVariables false

/-- What lies behind a point, read from it on. -/
theorem Plain.S_shift (M : Nat → Nat → Bool) {n m x y : Nat} (hx : x ≤ n) (hy : y ≤ m) : Plain.S M n m x y = Plain.L (fun i j => M (x + i) (y + j)) (n - x) (m - y) := by
  unfold Plain.S
  rw [← Plain.L_rev (fun i j => M (x + i) (y + j)) (n - x) (m - y)]
  refine Plain.L_congr _ _ fun i j hi hj => ?_
  unfold Plain.rev
  show M _ _ = M _ _
  congr 1 <;> omega

set_option maxHeartbeats 400000 in
theorem bytes11 (a0 a1 : Option Addr) (l0 c0 l1 c1 : Nat) (mc : Int) (w : World) :
    Calls Try.prog 11 #[.slice a0 l0 c0, .slice a1 l1 c1, .int .i64 mc] w fun e w' => ∃ b : Bool, e = .returned (.bool b) ∧ w' = w ∧ (l0 ≤ 4096 → l1 ≤ 4096 → b = true) := by
  go_enter Try.func11, Try.ntmps11
  go_wp2
  all_goals go_ret
  all_goals first | exact ⟨true, rfl, rfl, fun _ _ => rfl⟩ | exact ⟨false, rfl, rfl, fun _ _ => by omega⟩

set_option maxHeartbeats 400000 in
theorem bytes15 (a0 a1 : Option Addr) (l0 c0 l1 c1 : Nat) (mc : Int) (w : World) :
    Calls Try.prog 15 #[.slice a0 l0 c0, .slice a1 l1 c1, .int .i64 mc] w fun e w' => ∃ b : Bool, e = .returned (.bool b) ∧ w' = w ∧ (l0 ≤ 4096 → l1 ≤ 4096 → b = true) := by
  go_enter Try.func15, Try.ntmps15
  go_wp2
  all_goals go_ret
  all_goals first | exact ⟨true, rfl, rfl, fun _ _ => rfl⟩ | exact ⟨false, rfl, rfl, fun _ _ => by omega⟩

set_option maxHeartbeats 400000 in
theorem bytes19 (a0 a1 : Option Addr) (l0 c0 l1 c1 : Nat) (mc : Int) (w : World) :
    Calls Try.prog 19 #[.slice a0 l0 c0, .slice a1 l1 c1, .int .i64 mc] w fun e w' => ∃ b : Bool, e = .returned (.bool b) ∧ w' = w ∧ (l0 ≤ 4096 → l1 ≤ 4096 → b = true) := by
  go_enter Try.func19, Try.ntmps19
  go_wp2
  all_goals go_ret
  all_goals first | exact ⟨true, rfl, rfl, fun _ _ => rfl⟩ | exact ⟨false, rfl, rfl, fun _ _ => by omega⟩

end Go.Proofs.Qxb6600330a
