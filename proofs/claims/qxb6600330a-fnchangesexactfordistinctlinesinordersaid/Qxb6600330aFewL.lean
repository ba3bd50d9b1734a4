import Derived.Test.Qxb6600330aZzChanges
import Derived.Test.Qxb6600330aLcsStr
namespace Go.Proofs.Qxb6600330a
open Go.RowKit
set_option linter.unusedVariables false

theorem Plain.L_same {M1 M2 : Nat → Nat → Bool} : ∀ (N K : Nat), (∀ i j, i < N → j < K → M1 i j = M2 i j) → Plain.L M1 N K = Plain.L M2 N K
  | 0, K, _ => rfl
  | N + 1, 0, _ => by rw [Plain.L_zero_right, Plain.L_zero_right]
  | N + 1, K + 1, h => by
    rw [Plain.L_succ, Plain.L_succ, h N K (by omega) (by omega), Plain.L_same N K (fun i j a b => h i j (by omega) (by omega)), Plain.L_same N (K + 1) (fun i j a b => h i j (by omega) (by omega)), Plain.L_same (N + 1) K (fun i j a b => h i j (by omega) (by omega))]
termination_by N K => (N, K)
theorem tab_lines {g : ByteArray → Int} {T U : Nat → ByteArray} {N M : Nat} (inj : Inj g T U N M) (i j : Nat) (hi : i < N) (hj : j < M) : Plain.bx (fun i => g (T i)) (fun j => g (U j)) 0 0 i j = tab (cods T) (cods U) i j := by
  have h : Plain.bx (fun i => g (T i)) (fun j => g (U j)) 0 0 i j = true ↔ tab (cods T) (cods U) i j = true := by
    unfold Plain.bx
    rw [tab_true, tab_true, Nat.zero_add, Nat.zero_add]
    constructor
    · intro e
      exact cods_eq (inj _ _ (.inl ⟨i, hi, rfl⟩) (.inr ⟨j, hj, rfl⟩) e)
    · intro e
      show g (T i) = g (U j)
      rw [cods_inj e]
  cases e1 : Plain.bx (fun i => g (T i)) (fun j => g (U j)) 0 0 i j <;> cases e2 : tab (cods T) (cods U) i j <;> simp_all
theorem L_lines {g : ByteArray → Int} {T U : Nat → ByteArray} {N M : Nat} (inj : Inj g T U N M) : Plain.L (Plain.bx (fun i => g (T i)) (fun j => g (U j)) 0 0) N M = Plain.L (tab (cods T) (cods U)) N M :=
  Plain.L_same N M fun i j hi hj => tab_lines inj i j hi hj
/-- Where the bound suffices, the script touches no line too many. -/
theorem fewest_lines {T U : Nat → ByteArray} {N M mc : Nat} {F : List Plain.Ch} {g : ByteArray → Int} {R D : Nat → Bool} (inj : Inj g T U N M)
    (hcmp : Plain.Cmp (fun i => g (T i)) (fun j => g (U j)) (min mc ((N + M) / 2 + 1)) 0 N 0 M (fun _ => false) (fun _ => false) R D)
    (hg : Plain.Gath (fun i => g (T i)) (fun j => g (U j)) R D N M N M F) (h : N + M ≤ 2 * mc + 2 * Plain.L (tab (cods T) (cods U)) N M) : Plain.total F + 2 * Plain.L (tab (cods T) (cods U)) N M = N + M := by
  have h1 := (RetC.script inj hg).2.2.1
  have h2 := hcmp.opt
  simp only [Nat.sub_zero] at h2
  have hd := Plain.dist_eq (Plain.bx (fun i => g (T i)) (fun j => g (U j)) 0 0) N M
  have hL := L_lines inj
  have h3 := h2 (by show Plain.dist _ N M ≤ _; omega)
  rw [hL] at h3
  rw [h3] at h1
  exact h1

end Go.Proofs.Qxb6600330a
