import Derived.Test.Qxb6600330aRows
import Derived.WalkKit
import Derived.WalkSpells
import Derived.WalkLawsBesides
import Derived.BigQuiet
namespace Go.Proofs.Qxb6600330a
open Go.RowKit
set_option linter.unusedVariables false

/-- The edit graph as a value. -/
def gv (n m c : Int) : Value := .agg #[.int .i64 n, .int .i64 m, .int .i64 c]

set_option maxHeartbeats 400000 in
theorem index_any (n m c ce k : Int) (w : World) (h1 : -100000 ≤ ce) (h2 : ce ≤ 100000) (h3 : -100000 ≤ k) (h4 : k ≤ 100000) (h5 : 0 ≤ c) (h6 : c ≤ 100000) :
    Calls Try.prog 41 #[.agg #[.int .i64 n, .int .i64 m, .int .i64 c], .int .i64 ce, .int .i64 k] w fun e w' => e = .returned (.int .i64 (k - ce + c + 1)) ∧ Below w.heap.size w w' := by
  go_enter Try.func41, Try.ntmps41
  go_wp2
  go_ret
  exact ⟨rfl, (Below.refl _ _).alloc (Nat.le_refl _) _⟩


set_option maxHeartbeats 400000 in
theorem at_out (n m c ce k cost : Int) (v : Value) (w : World) (h1 : -100000 ≤ ce) (h2 : ce ≤ 100000) (h3 : -100000 ≤ k) (h4 : k ≤ 100000) (h5 : 0 ≤ c) (h6 : c ≤ 100000) (h7 : -100000 ≤ cost) (h8 : cost ≤ 100000)
    (h9 : 0 ≤ n) (h10 : n ≤ 100000) (h11 : 0 ≤ m) (h12 : m ≤ 100000) (h : k < ce - cost ∨ k < -m ∨ ce + cost < k ∨ n < k) :
    Calls Try.prog 40 #[.agg #[.int .i64 n, .int .i64 m, .int .i64 c], v, .int .i64 ce, .int .i64 k, .int .i64 cost] w fun e w' => e = .returned (.int .i64 (-1)) ∧ Below w.heap.size w w' := by
  go_enter Try.func40, Try.ntmps40
  go_wp2_with fail
  all_goals (go_ret; exact ⟨rfl, (Below.refl _ _).alloc (Nat.le_refl _) _⟩)

theorem below_box {w w' : World} {o : Obj} (hb : Below (w.alloc o).heap.size (w.alloc o) w') : Below w.heap.size w w' :=
  ((Below.refl _ _).alloc (Nat.le_refl _) _).trans (hb.mono (by simp))

set_option maxHeartbeats 400000 in
theorem at_in (n m c ce k cost x : Int) (b : Nat) (len : Nat) (w : World) (h1 : -100000 ≤ ce) (h2 : ce ≤ 100000) (h3 : -100000 ≤ k) (h4 : k ≤ 100000) (h5 : 0 ≤ c) (h6 : c ≤ 100000) (h7 : -100000 ≤ cost) (h8 : cost ≤ 100000)
    (h9 : 0 ≤ n) (h10 : n ≤ 100000) (h11 : 0 ≤ m) (h12 : m ≤ 100000) (g1 : ce - cost ≤ k) (g2 : -m ≤ k) (g3 : k ≤ ce + cost) (g4 : k ≤ n) (i1 : 0 ≤ k - ce + c + 1) (i2 : k - ce + c + 1 < len) (hc : w.cell? ⟨b, (k - ce + c + 1).toNat, none⟩ = some (.int .i64 x)) :
    Calls Try.prog 40 #[.agg #[.int .i64 n, .int .i64 m, .int .i64 c], .slice (some ⟨b, 0, none⟩) len len, .int .i64 ce, .int .i64 k, .int .i64 cost] w fun e w' => e = .returned (.int .i64 x) ∧ Below w.heap.size w w' := by
  go_enter Try.func40, Try.ntmps40
  go_wp2_with (go_at_call 41; refine (index_any _ _ _ _ _ _ (by omega) (by omega) (by omega) (by omega) (by omega) (by omega)).mono ?_; rintro e w' ⟨rfl, hb⟩; have hb2 := below_box hb; have hc2 := cell_later hb2 hc; clear hb)
  all_goals (go_ret; exact ⟨rfl, by assumption⟩)

/-- What 'diagonals' answers. -/
def Diags (n m ce cost lo hi : Int) : Prop :=
  (ce - cost ≤ lo ∧ -m ≤ lo ∧ (∃ z : Int, lo = ce - cost + 2 * z) ∧ (lo = ce - cost ∨ lo ≤ -m + 1)) ∧ hi ≤ ce + cost ∧ hi ≤ n ∧ (hi = ce + cost ∨ hi = n)
theorem diags_mk1 {n m ce cost : Int} (h : ce - cost < -m) (h' : ce + cost ≤ n) (h0 : 0 ≤ ce + cost + m) : Diags n m ce cost (-m + (ce + cost + m) % 2) (ce + cost) :=
  ⟨⟨by omega, by omega, ⟨(-m + (ce + cost + m) % 2 - ce + cost) / 2, by omega⟩, by omega⟩, by omega, by omega, .inl rfl⟩
theorem diags_mk2 {n m ce cost : Int} (h : ce - cost < -m) (h' : n < ce + cost) (h0 : 0 ≤ ce + cost + m) : Diags n m ce cost (-m + (ce + cost + m) % 2) n :=
  ⟨⟨by omega, by omega, ⟨(-m + (ce + cost + m) % 2 - ce + cost) / 2, by omega⟩, by omega⟩, by omega, by omega, .inr rfl⟩
theorem diags_mk3 {n m ce cost : Int} (h : -m ≤ ce - cost) (h' : ce + cost ≤ n) : Diags n m ce cost (ce - cost) (ce + cost) :=
  ⟨⟨by omega, by omega, ⟨0, by omega⟩, .inl rfl⟩, by omega, by omega, .inl rfl⟩
theorem diags_mk4 {n m ce cost : Int} (h : -m ≤ ce - cost) (h' : n < ce + cost) : Diags n m ce cost (ce - cost) n :=
  ⟨⟨by omega, by omega, ⟨0, by omega⟩, .inl rfl⟩, by omega, by omega, .inr rfl⟩

set_option maxHeartbeats 400000 in
theorem diagonals_any (n m c ce cost : Int) (w : World) (h1 : -100000 ≤ ce) (h2 : ce ≤ 100000) (h5 : 0 ≤ c) (h6 : c ≤ 100000) (h7 : 0 ≤ cost) (h8 : cost ≤ 100000)
    (h9 : 0 ≤ n) (h10 : n ≤ 100000) (h11 : 0 ≤ m) (h12 : m ≤ 100000) (h13 : 0 ≤ ce + m) :
    Calls Try.prog 39 #[.agg #[.int .i64 n, .int .i64 m, .int .i64 c], .int .i64 ce, .int .i64 cost] w fun e w' => ∃ lo hi, e = .returned (.tuple #[.int .i64 lo, .int .i64 hi]) ∧ Diags n m ce cost lo hi ∧ Below w.heap.size w w' := by
  have h0 : 0 ≤ ce + cost + m := by omega
  rcases Int.lt_or_le (ce - cost) (-m) with hlo | hlo <;> rcases Int.lt_or_le n (ce + cost) with hhi | hhi
  all_goals
    go_enter Try.func39, Try.ntmps39
    go_wp2
    go_region
    all_goals go_wp2
    all_goals go_ret2
    all_goals exact ⟨_, _, rfl, by first | exact diags_mk1 hlo hhi h0 | exact diags_mk2 hlo hhi h0 | exact diags_mk3 hlo hhi | exact diags_mk4 hlo hhi, ((Below.refl _ _).alloc (Nat.le_refl _) _).drew⟩

end Go.Proofs.Qxb6600330a
