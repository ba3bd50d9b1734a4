import Derived.Test.Qxb6600330aMake
import Derived.WalkSmall
namespace Go.Proofs.Qxb6600330a
open Go.RowKit
set_option linter.unusedVariables false

set_option maxHeartbeats 400000 in
theorem inside_any (x y n m : Nat) (w : World) (h1 : x ≤ n) (h2 : y ≤ m) (h3 : ¬ (x = 0 ∧ y = 0)) (h4 : ¬ (x = n ∧ y = m)) :
    Calls Try.prog 22 #[.int .i64 x, .int .i64 y, .int .i64 0, .int .i64 n, .int .i64 0, .int .i64 m] w fun e w' => e = .returned (.bool true) ∧ w' = w := by
  have g1 : (x : Int) ≤ n := by omega
  have g2 : (y : Int) ≤ m := by omega
  have H3 : Hid (¬ (x = 0 ∧ y = 0)) := h3
  have H4 : Hid (¬ (x = n ∧ y = m)) := h4
  clear h3 h4
  by_cases q1 : x = 0
  · have d1 : ((x : Int) == 0) = true := by simp [q1]
    have q2 : 0 < y := by have := H3.out; omega
    have d2 : ((y : Int) == 0) = false := by simp; omega
    clear q1
    by_cases q3 : (x : Int) = n
    · have d3 : ((x : Int) == n) = true := by simpa using q3
      have d4 : ((y : Int) == m) = false := by have := H4.out; simp; omega
      clear q3
      go_enter Try.func22, Try.ntmps22
      go_wp2
      go_ret
      exact ⟨rfl, rfl⟩
    · have d3 : ((x : Int) == n) = false := by simpa using q3
      go_enter Try.func22, Try.ntmps22
      go_wp2
      go_ret
      exact ⟨rfl, rfl⟩
  · have d1 : ((x : Int) == 0) = false := by simp; omega
    by_cases q3 : (x : Int) = n
    · have d3 : ((x : Int) == n) = true := by simpa using q3
      have d4 : ((y : Int) == m) = false := by have := H4.out; simp; omega
      clear q3
      go_enter Try.func22, Try.ntmps22
      go_wp2
      go_ret
      exact ⟨rfl, rfl⟩
    · have d3 : ((x : Int) == n) = false := by simpa using q3
      go_enter Try.func22, Try.ntmps22
      go_wp2
      go_ret
      exact ⟨rfl, rfl⟩

set_option maxHeartbeats 400000 in
theorem bytes23 (a0 a1 : Option Addr) (l0 c0 l1 c1 : Nat) (mc : Int) (w : World) :
    Calls Try.prog 23 #[.slice a0 l0 c0, .slice a1 l1 c1, .int .i64 mc] w fun e w' => ∃ b : Bool, e = .returned (.bool b) ∧ w' = w ∧ (l0 ≤ 4096 → l1 ≤ 4096 → b = true) := by
  go_enter Try.func23, Try.ntmps23
  go_wp2
  all_goals go_ret
  all_goals first | exact ⟨true, rfl, rfl, fun _ _ => rfl⟩ | exact ⟨false, rfl, rfl, fun _ _ => by omega⟩

end Go.Proofs.Qxb6600330a
