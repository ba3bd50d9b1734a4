import Derived.Test.Qxb6600330aLcsInt
namespace Go.Proofs.Qxb6600330a
open Go.RowKit
set_option linter.unusedVariables false

/-- A slice of strings, whatever its address where it is empty. -/
def StrSl (w : World) (ao : Option Addr) (l : Nat) (T : Nat → ByteArray) : Prop := 0 < l → ∃ b o, ao = some ⟨b, o, none⟩ ∧ ∀ i, i < l → w.cell? ⟨b, o + i, none⟩ = some (.string (T i))
theorem StrSl.kept {w w' : World} {ao : Option Addr} {l : Nat} {T : Nat → ByteArray} (h : StrSl w ao l T) (k : Below w.heap.size w w') : StrSl w' ao l T := fun h0 => by
  obtain ⟨b, o, e, r⟩ := h h0
  exact ⟨b, o, e, fun i hi => cell_later k (r i hi)⟩

/-- An int within bounds comes back, and nothing is touched. -/
def RetN (w : World) (e : Ending) (w' : World) : Prop := ∃ r : Int, e = .returned (.int .i64 r) ∧ 0 ≤ r ∧ r ≤ 1048577 ∧ w' = w

set_option maxRecDepth 100000 in
set_option maxHeartbeats 1000000 in
theorem linesBytes_any (ao : Option Addr) (l c : Nat) (T : Nat → ByteArray) (w : World) (hl : l ≤ 9223372036854775807) (ha : StrSl w ao l T) :
    Calls Try.prog 25 #[.slice ao l c] w (RetN w) := by
  have HA : Hid (StrSl w ao l T) := ha
  clear ha
  by_cases q0 : (65536 : Int) < l
  · go_enter Try.func25, Try.ntmps25
    go_wp2
    go_ret
    exact ⟨_, rfl, by omega, by omega, rfl⟩
  go_enter Try.func25, Try.ntmps25
  go_wp2_with fail
  go_loopw [3, 4] (fun v3 v4 wr => ∃ (i : Nat) (s : Int), i ≤ l ∧ 0 ≤ s ∧ s ≤ 1048576 ∧ v3 = .int .i64 s ∧ v4 = .int .i64 (i : Int) ∧ Hid (wr = w)) (fun _ v wr => l - (intOf v).toNat)
  case atStart => exact ⟨0, 16 * (l : Int), by omega, by omega, by omega, rfl, rfl, rfl⟩
  case round =>
    obtain ⟨i, s, hi, h1, h2, rfl, rfl, hr⟩ := hrel
    have hww := hr.out.symm
    clear hr
    subst hww
    by_cases q : (i : Int) < (l : Int)
    · obtain ⟨b, o, rfl, r⟩ := HA.out (by omega)
      have k1 := r i (by omega)
      clear r HA
      generalize T i = t at k1
      by_cases q1 : (1048576 : Int) < (t.size : Int)
      · go_wp2
        go_ret
        exact ⟨_, rfl, by omega, by omega, rfl⟩
      · by_cases q2 : (1048576 : Int) < s + (t.size : Int)
        · go_wp2
          go_ret
          exact ⟨_, rfl, by omega, by omega, rfl⟩
        · go_wp2
          go_roundw
          case rel => exact ⟨i + 1, s + t.size, by omega, by omega, by omega, by go_num, by go_num, (by first | rfl | trivial)⟩
          case measure => simp [intOf]; omega
    · go_wp2
      go_ret
      exact ⟨_, rfl, h1, by omega, rfl⟩

end Go.Proofs.Qxb6600330a
