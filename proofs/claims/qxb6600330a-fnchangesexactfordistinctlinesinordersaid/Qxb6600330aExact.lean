import Derived.Test.Qxb6600330aFewL
import Derived.Test.Qxb6600330aAnchStr
import Derived.Test.Qxb6600330aGaps
namespace Go.Proofs.Qxb6600330a
open Go.RowKit
set_option linter.unusedVariables false

namespace Plain
def pA (P : List (Nat × Nat)) (N M : Nat) (k : Nat) : Nat := (P.getD k (N, M)).1
def pB (P : List (Nat × Nat)) (N M : Nat) (k : Nat) : Nat := (P.getD k (N, M)).2
theorem getD_in {P : List (Nat × Nat)} {k : Nat} {d : Nat × Nat} (h : k < P.length) : P.getD k d = P[k] := by
  rw [List.getD_eq_getElem?_getD, List.getElem?_eq_getElem h]; rfl
theorem getD_out {P : List (Nat × Nat)} {k : Nat} {d : Nat × Nat} (h : P.length ≤ k) : P.getD k d = d := by
  rw [List.getD_eq_getElem?_getD, List.getElem?_eq_none h]; rfl
section
variable {P : List (Nat × Nat)} {N M : Nat} {R D : Nat → Bool}
theorem places_A (inc : P.Pairwise (fun p q => p.1 < q.1 ∧ p.2 < q.2)) (bd : ∀ p, p ∈ P → p.1 < N ∧ p.2 < M) (mk : ∀ i, i < N → (R i = false ↔ ∃ j, (i, j) ∈ P)) : Places (pA P N M) P.length N R := by
  refine ⟨fun k hk => ?_, by unfold pA; rw [getD_out (Nat.le_refl _)], fun i hi => ?_⟩
  · unfold pA
    rw [getD_in hk]
    by_cases e : k + 1 < P.length
    · rw [getD_in e]
      exact (List.pairwise_iff_getElem.1 inc k (k + 1) hk e (Nat.lt_succ_self k)).1
    · rw [getD_out (by omega)]
      exact (bd _ (List.getElem_mem hk)).1
  · rw [mk i hi]
    constructor
    · rintro ⟨j, hj⟩
      obtain ⟨k, hk, e⟩ := List.mem_iff_getElem.1 hj
      exact ⟨k, hk, by unfold pA; rw [getD_in hk, e]⟩
    · rintro ⟨k, hk, e⟩
      refine ⟨P[k].2, ?_⟩
      unfold pA at e
      rw [getD_in hk] at e
      rw [← e]
      exact List.getElem_mem hk
theorem places_B (inc : P.Pairwise (fun p q => p.1 < q.1 ∧ p.2 < q.2)) (bd : ∀ p, p ∈ P → p.1 < N ∧ p.2 < M) (mk : ∀ j, j < M → (D j = false ↔ ∃ i, (i, j) ∈ P)) : Places (pB P N M) P.length M D := by
  refine ⟨fun k hk => ?_, by unfold pB; rw [getD_out (Nat.le_refl _)], fun i hi => ?_⟩
  · unfold pB
    rw [getD_in hk]
    by_cases e : k + 1 < P.length
    · rw [getD_in e]
      exact (List.pairwise_iff_getElem.1 inc k (k + 1) hk e (Nat.lt_succ_self k)).2
    · rw [getD_out (by omega)]
      exact (bd _ (List.getElem_mem hk)).2
  · rw [mk i hi]
    constructor
    · rintro ⟨j, hj⟩
      obtain ⟨k, hk, e⟩ := List.mem_iff_getElem.1 hj
      exact ⟨k, hk, by unfold pB; rw [getD_in hk, e]⟩
    · rintro ⟨k, hk, e⟩
      refine ⟨P[k].1, ?_⟩
      unfold pB at e
      rw [getD_in hk] at e
      rw [← e]
      exact List.getElem_mem hk
end
end Plain

theorem anch_lines {g : ByteArray → Int} {T U : Nat → ByteArray} {N M : Nat} {last : Int} {P : List (Nat × Nat)} (inj : Inj g T U N M) (h : Plain.Anch (cods T) (cods U) M N last P) : Plain.Anch (fun i => g (T i)) (fun j => g (U j)) M N last P := by
  refine ⟨fun p hp => ?_, fun t j ht hj e => ?_, h.inc, h.lb, h.len⟩
  · obtain ⟨h1, h2, h3, h4⟩ := h.ok p hp
    exact ⟨h1, h2, by show g (T p.1) = g (U p.2); rw [cods_inj h3], h4⟩
  · exact h.all t j ht hj (cods_eq (inj _ _ (.inl ⟨t, ht, rfl⟩) (.inr ⟨j, hj, rfl⟩) e))

/-- **For distinct lines in order the script is the list of the gaps.** -/
theorem exact_lines {T U : Nat → ByteArray} {N M mc : Nat} {F : List Plain.Ch} {g : ByteArray → Int} {R D : Nat → Bool} {last : Int} {P : List (Nat × Nat)} (inj : Inj g T U N M)
    (hcmp : Plain.Cmp (fun i => g (T i)) (fun j => g (U j)) (min mc ((N + M) / 2 + 1)) 0 N 0 M (fun _ => false) (fun _ => false) R D)
    (hrun : Plain.Run R D N M N M F) (hA : Plain.Anch (cods T) (cods U) M N last P) (h : N + M ≤ 2 * mc + 2 * P.length) :
    F = Plain.gl (Plain.pA P N M) (Plain.pB P N M) (P.length + 1) ∧ Plain.Places (Plain.pA P N M) P.length N R ∧ Plain.Places (Plain.pB P N M) P.length M D := by
  have hA' := anch_lines inj hA
  have hl := Plain.anch_L hA
  have hL := L_lines inj
  have hd := Plain.dist_eq (Plain.bx (fun i => g (T i)) (fun j => g (U j)) 0 0) N M
  have h2 := hcmp.opt
  have hs := hcmp.same
  simp only [Nat.sub_zero] at h2 hs
  have h3 := h2 (by show Plain.dist _ N M ≤ _; omega)
  obtain ⟨m1, m2⟩ := Plain.anch_exact hA' hs (by omega)
  have bd : ∀ p, p ∈ P → p.1 < N ∧ p.2 < M := fun p hp => ⟨(hA.ok p hp).1, (hA.ok p hp).2.1⟩
  have pa := Plain.places_A hA.inc bd m1
  have pb := Plain.places_B hA.inc bd m2
  exact ⟨Plain.run_gaps pa pb hrun, pa, pb⟩

theorem IntSl.congr {w : World} {ao : Option Addr} {l : Nat} {Z Z' : Nat → Int} (h : IntSl w ao l Z) (e : ∀ i, i < l → Z i = Z' i) : IntSl w ao l Z' := fun h0 => by
  obtain ⟨b, o, e', r⟩ := h h0
  exact ⟨b, o, e', fun i hi => by rw [← e i hi]; exact r i hi⟩

end Go.Proofs.Qxb6600330a
