import Derived.Test.Qxb6600330aLcsInt
namespace Go.Proofs.Qxb6600330a
open Go.RowKit
set_option linter.unusedVariables false

/-- A bool comes back. -/
def RetB (P : Bool → World → Prop) (e : Ending) (w' : World) : Prop := ∃ b, e = .returned (.bool b) ∧ P b w'
theorem RetB.mk {P : Bool → World → Prop} {e : Ending} {w' : World} (b : Bool) (h : e = .returned (.bool b)) (hp : P b w') : RetB P e w' := ⟨b, h, hp⟩
/-- No value twice. -/
def Dist (Z : Nat → Int) (l : Nat) : Prop := ∀ i j, j < i → i < l → ¬ Z i = Z j

set_option maxRecDepth 100000 in
set_option maxHeartbeats 1000000 in
theorem distinctInt_any (ao : Option Addr) (l c : Nat) (Z : Nat → Int) (w : World) (hl : l ≤ 4096) (ha : IntSl w ao l Z) :
    Calls Try.prog 34 #[.slice ao l c] w (RetB fun b w' => (b = true → Dist Z l) ∧ Below w.heap.size w w') := by
  have HA : Hid (IntSl w ao l Z) := ha
  clear ha
  go_enter Try.func34, Try.ntmps34
  go_wp2_with fail
  go_loopw [3] (fun v wr => ∃ i : Nat, 1 ≤ i ∧ (i = 1 ∨ i ≤ l) ∧ v = .int .i64 (i : Int) ∧ Hid (Dist Z i ∧ Below w.heap.size w wr)) (fun v wr => l - (intOf v).toNat)
  case atStart => exact ⟨1, by omega, .inl rfl, rfl, fun i j h1 h2 => by omega, Below.refl _ _⟩
  case round =>
    obtain ⟨i, hi1, hi2, rfl, hr⟩ := hrel
    have hi3 : (i : Int) ≤ 4097 := by omega
    by_cases q1 : (i : Int) < l
    · obtain ⟨b, o, rfl, hrow⟩ := HA.out (by omega)
      have HROW : Hid (IntRow w b o l Z) := hrow
      clear hrow HA
      obtain ⟨wo, ewo⟩ : ∃ wo : World, wo = wr := ⟨_, rfl⟩
      have HO : Hid (wo = wr) := ewo
      clear ewo
      go_wp2_with fail
      go_loopw [4] (fun v wr => ∃ j : Nat, j ≤ i ∧ v = .int .i64 (j : Int) ∧ Hid ((∀ t, t < j → ¬ Z i = Z t) ∧ Below w.heap.size w wr)) (fun v wr => i - (intOf v).toNat)
      case atStart => exact ⟨0, by omega, rfl, fun t ht => by omega, by have := HO.out; rw [this] at *; exact hr.out.2⟩
      case round =>
        obtain ⟨j, hj, rfl, hr2⟩ := hrel
        by_cases q2 : (j : Int) < (i : Int)
        · have k1 : wr.cell? ⟨b, o + i, none⟩ = some (.int .i64 (Z i)) := cell_later hr2.out.2 (HROW.out i (by omega))
          have k2 : wr.cell? ⟨b, o + j, none⟩ = some (.int .i64 (Z j)) := cell_later hr2.out.2 (HROW.out j (by omega))
          have n2 : j < i := by omega
          by_cases q3 : Z i = Z j
          · have d3 : (Z i == Z j) = true := by simpa using q3
            clear q3
            go_wp2_with fail
            go_quiet (fail)
            go_wp2
            go_ret
            exact .mk false rfl ⟨fun h => absurd h (by decide), below_drewN hr2.out.2 _⟩
          · have d3 : (Z i == Z j) = false := by simpa using q3
            have HQ : Hid (¬ Z i = Z j) := q3
            clear q3
            go_wp2_with fail
            go_quiet (fail)
            go_wp2
            go_roundw
            case rel => exact ⟨j + 1, by omega, by go_num, fun t ht => by
              by_cases e : t = j
              · subst e; exact HQ.out
              · exact hr2.out.1 t (by omega), below_drewN hr2.out.2 _⟩
            case measure => simp [intOf]; omega
        · have q2n : ¬ j < i := by omega
          go_wp2
          go_roundw
          case rel => exact ⟨i + 1, by omega, .inr (by omega), by go_num, fun s t h1 h2 => by
            by_cases e : s = i
            · subst e; exact hr2.out.1 t (by omega)
            · exact hr.out.1 s t h1 (by omega), hr2.out.2⟩
          case measure => simp [intOf]; omega
    · go_wp2
      go_ret
      exact .mk true rfl ⟨fun _ s t h1 h2 => hr.out.1 s t h1 (by omega), hr.out.2⟩

end Go.Proofs.Qxb6600330a
