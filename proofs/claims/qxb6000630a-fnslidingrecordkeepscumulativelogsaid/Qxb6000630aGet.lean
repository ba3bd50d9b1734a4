import Derived.Test.Qxb6000630aRun
import Derived.WalkSmall
import Derived.BigQuiet
namespace Go.Proofs.Qxb6000630a
open Go.RowKit
set_option linter.unusedVariables false
set_option linter.unusedSimpArgs false

set_option maxHeartbeats 400000 in
theorem bytes14 (a0 a1 : Option Addr) (l0 c0 l1 c1 : Nat) (w : World) :
    Calls Try.prog 14 #[.slice a0 l0 c0, .slice a1 l1 c1] w fun e w' => ∃ b : Bool, e = .returned (.bool b) ∧ w' = w ∧ (l0 ≤ 4096 → l1 ≤ 4096 → b = true) := by
  go_enter Try.func14, Try.ntmps14
  go_wp2
  all_goals go_ret
  all_goals first | exact ⟨true, rfl, rfl, fun _ _ => rfl⟩ | exact ⟨false, rfl, rfl, fun _ _ => by omega⟩

theorem len_any (bl : Nat) (v : Value) (L : List (Int × Int)) (th : Int) (w : World) (h : Lg w bl v L th) :
    Calls Try.prog 16 #[.pointer (some ⟨bl, 0, none⟩)] w fun e w' => e = .returned (.int .i64 (L.length : Int)) ∧ w' = w := by
  have k0 := h.c0
  rcases h.form with ⟨rfl, rfl⟩ | ⟨g, cap, rfl, _⟩
  · clear h
    go_enter Try.func16, Try.ntmps16
    go_wp2
    go_ret
    exact ⟨rfl, rfl⟩
  · clear h
    go_enter Try.func16, Try.ntmps16
    go_wp2
    go_ret
    exact ⟨rfl, rfl⟩

set_option maxHeartbeats 1000000 in
theorem hit_any (bl k : Nat) (v : Value) (L : List (Int × Int)) (th : Int) (w : World) (h : Lg w bl v L th) (hk : k < L.length) (hn : L.length ≤ 4096) :
    Calls Try.prog 17 #[.pointer (some ⟨bl, 0, none⟩), .int .i64 (k : Int)] w fun e w' => e = .returned (.tuple #[.int .i64 (L.getD k (0, 0)).1, .int .u64 (L.getD k (0, 0)).2]) ∧ Below w.heap.size w w' := by
  have k0 := h.c0
  rcases h.form with ⟨_, rfl⟩ | ⟨g, cap, rfl, _, hc, _⟩
  · simp at hk
  · have k1 := (hc k hk).1
    have k2 := (hc k hk).2
    have hk' : (k : Int) < L.length := by omega
    generalize (L.getD k (0, 0)).1 = x at k1 ⊢
    generalize (L.getD k (0, 0)).2 = y at k2 ⊢
    clear h hc
    go_enter Try.func17, Try.ntmps17
    go_wp2_with fail
    first | go_quiet (fail) | go_region
    all_goals go_wp2
    all_goals go_ret2
    all_goals exact ⟨rfl, by first | exact below_drewN (Below.refl _ _) _ | exact (Below.refl _ _).drew⟩

end Go.Proofs.Qxb6000630a
