import Derived.Test.Qxb6600330aWorld
import Derived.Test.Qxb6600330aFar
import Derived.WalkSmall
namespace Go.Proofs.Qxb6600330a
open Go.RowKit
set_option linter.unusedVariables false

def dlo (m ce cost : Int) : Int := if ce - cost < -m then -m + (ce + cost + m) % 2 else ce - cost
def dhi (n ce cost : Int) : Int := if n < ce + cost then n else ce + cost
theorem diags_det (n m ce cost : Int) (h0 : 0 ≤ ce + cost + m) : Diags n m ce cost (dlo m ce cost) (dhi n ce cost) := by
  unfold dlo dhi
  by_cases h : ce - cost < -m <;> by_cases h' : n < ce + cost <;> simp only [h, h', if_true, if_false]
  · exact diags_mk2 h h' h0
  · exact diags_mk1 h (by omega) h0
  · exact diags_mk4 (by omega) h'
  · exact diags_mk3 (by omega) (by omega)

set_option maxHeartbeats 400000 in
theorem diagonals_det (n m c ce cost : Int) (w : World) (h1 : -100000 ≤ ce) (h2 : ce ≤ 100000) (h5 : 0 ≤ c) (h6 : c ≤ 100000) (h7 : 0 ≤ cost) (h8 : cost ≤ 100000)
    (h9 : 0 ≤ n) (h10 : n ≤ 100000) (h11 : 0 ≤ m) (h12 : m ≤ 100000) (h13 : 0 ≤ ce + m) :
    Calls Try.prog 39 #[.agg #[.int .i64 n, .int .i64 m, .int .i64 c], .int .i64 ce, .int .i64 cost] w fun e w' => e = .returned (.tuple #[.int .i64 (dlo m ce cost), .int .i64 (dhi n ce cost)]) ∧ Below w.heap.size w w' := by
  have h0 : 0 ≤ ce + cost + m := by omega
  unfold dlo dhi
  rcases Int.lt_or_le (ce - cost) (-m) with hlo | hlo <;> rcases Int.lt_or_le n (ce + cost) with hhi | hhi
  · rw [if_pos hlo, if_pos hhi]
    go_enter Try.func39, Try.ntmps39
    go_wp2
    go_region
    all_goals go_wp2
    all_goals go_ret2
    all_goals exact ⟨rfl, ((Below.refl _ _).alloc (Nat.le_refl _) _).drew⟩
  · rw [if_pos hlo, if_neg (by omega)]
    go_enter Try.func39, Try.ntmps39
    go_wp2
    go_region
    all_goals go_wp2
    all_goals go_ret2
    all_goals exact ⟨rfl, ((Below.refl _ _).alloc (Nat.le_refl _) _).drew⟩
  · rw [if_neg (by omega), if_pos hhi]
    go_enter Try.func39, Try.ntmps39
    go_wp2
    go_region
    all_goals go_wp2
    all_goals go_ret2
    all_goals exact ⟨rfl, ((Below.refl _ _).alloc (Nat.le_refl _) _).drew⟩
  · rw [if_neg (by omega), if_neg (by omega)]
    go_enter Try.func39, Try.ntmps39
    go_wp2
    go_region
    all_goals go_wp2
    all_goals go_ret2
    all_goals exact ⟨rfl, ((Below.refl _ _).alloc (Nat.le_refl _) _).drew⟩

end Go.Proofs.Qxb6600330a
