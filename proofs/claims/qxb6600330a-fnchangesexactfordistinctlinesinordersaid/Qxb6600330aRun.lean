/-
  PLAIN: the gathering as a run; where the marks are the gaps between anchors, it gathers the gaps.
-/
import Derived.Test.Qxb6600330aScr
set_option linter.unusedVariables false
namespace Go.Proofs.Qxb6600330a.Plain

/-- The gathering of the changes, step by step. -/
inductive Run (R D : Nat → Bool) (N M : Nat) : Nat → Nat → List Ch → Prop
  | start : Run R D N M 0 0 []
  | hit {i j : Nat} {F : List Ch} : Run R D N M i j F → i < N → j < M → R i = false → D j = false → Run R D N M (i + 1) (j + 1) F
  | change {i j i' j' : Nat} {F : List Ch} : Run R D N M i j F → (i < N ∨ j < M) → ¬ (i < N ∧ j < M ∧ R i = false ∧ D j = false) → i ≤ i' → i' ≤ N → j ≤ j' → j' ≤ M →
      (∀ t, i ≤ t → t < i' → R t = true) → (∀ t, j ≤ t → t < j' → D t = true) → (i' = N ∨ R i' = false) → (j' = M ∨ D j' = false) → Run R D N M i' j' (F ++ [⟨i, i' - i, j, j' - j⟩])

/-- Where the k-th gap begins. -/
def sI (p : Nat → Nat) (k : Nat) : Nat := if k = 0 then 0 else p (k - 1) + 1
theorem sI_next (p : Nat → Nat) (k : Nat) : sI p (k + 1) = p k + 1 := by unfold sI; rw [if_neg (by omega)]; rfl
def gapOf (i a j b : Nat) : List Ch := if i < a ∨ j < b then [⟨i, a - i, j, b - j⟩] else []
/-- The first k gaps. -/
def gl (p q : Nat → Nat) : Nat → List Ch
  | 0 => []
  | k + 1 => gl p q k ++ gapOf (sI p k) (p k) (sI q k) (q k)

/-- The places of the anchors in one text. -/
structure Places (p : Nat → Nat) (n N : Nat) (R : Nat → Bool) : Prop where
  lt : ∀ k, k < n → p k < p (k + 1)
  fin : p n = N
  mark : ∀ i, i < N → (R i = false ↔ ∃ k, k < n ∧ p k = i)
section
variable {p q : Nat → Nat} {n N M : Nat} {R D : Nat → Bool}
theorem Places.mono (h : Places p n N R) : ∀ {k k' : Nat}, k < k' → k' ≤ n → p k < p k' := by
  intro k k' h1 h2
  induction k' with
  | zero => omega
  | succ m ih =>
    have h3 := h.lt m (by omega)
    by_cases e : k = m
    · subst e; exact h3
    · have := ih (by omega) (by omega); omega
theorem Places.lt_end (h : Places p n N R) {k : Nat} (hk : k < n) : p k < N := by rw [← h.fin]; exact h.mono hk (Nat.le_refl _)
theorem Places.le_end (h : Places p n N R) {k : Nat} (hk : k ≤ n) : p k ≤ N := by
  by_cases e : k = n
  · subst e; exact Nat.le_of_eq h.fin
  · exact Nat.le_of_lt (h.lt_end (by omega))
theorem Places.begin (h : Places p n N R) {k : Nat} (hk : k ≤ n) : sI p k ≤ p k := by
  cases k with
  | zero => exact Nat.zero_le _
  | succ m => rw [sI_next]; exact h.lt m (by omega)
theorem Places.between (h : Places p n N R) {k t : Nat} (hk : k ≤ n) (h1 : sI p k ≤ t) (h2 : t < p k) : R t = true := by
  cases e : R t with
  | true => rfl
  | false =>
    exfalso
    have hN := h.le_end hk
    obtain ⟨k', hk', e'⟩ := (h.mark t (by omega)).1 e
    by_cases q1 : k' < k
    · obtain ⟨m, rfl⟩ : ∃ m, k = m + 1 := ⟨k - 1, by omega⟩
      rw [sI_next] at h1
      by_cases q2 : k' = m
      · subst q2; omega
      · have := h.mono (k := k') (k' := m) (by omega) (by omega); omega
    · by_cases q2 : k' = k
      · subst q2; omega
      · have := h.mono (k := k) (k' := k') (by omega) (by omega); omega
/-- A run of marks from a gap's beginning on ends where the gap does. -/
theorem Places.run (h : Places p n N R) {k i' : Nat} (hk : k ≤ n) (h1 : sI p k ≤ i') (h2 : i' ≤ N) (h3 : ∀ t, sI p k ≤ t → t < i' → R t = true) (h4 : i' = N ∨ R i' = false) : i' = p k := by
  have b1 := h.begin hk
  have b2 := h.le_end hk
  rcases Nat.lt_trichotomy i' (p k) with q | q | q
  · exfalso
    have := h.between hk h1 q
    rcases h4 with e | e
    · omega
    · rw [this] at e; cases e
  · exact q
  · exfalso
    have e1 := h3 (p k) b1 q
    have : k < n := by
      rcases Nat.lt_or_ge k n with g | g
      · exact g
      · have : k = n := by omega
        subst this
        have := h.fin
        omega
    have e2 := (h.mark (p k) (by omega)).2 ⟨k, this, rfl⟩
    rw [e1] at e2; cases e2
/-- An unmarked line at a gap's beginning is the anchor behind the gap. -/
theorem Places.hit (h : Places p n N R) {k : Nat} (hk : k ≤ n) (h1 : sI p k < N) (h2 : R (sI p k) = false) : sI p k = p k := by
  have b1 := h.begin hk
  rcases Nat.lt_or_ge (sI p k) (p k) with q | q
  · have := h.between hk (Nat.le_refl _) q
    rw [this] at h2; cases h2
  · omega
theorem Places.at_end (h : Places p n N R) {k : Nat} (hk : k ≤ n) (e : p k = N) : k = n := by
  rcases Nat.lt_or_ge k n with g | g
  · have := h.lt_end g; omega
  · omega

/-- Where the gathering stands among the gaps. -/
def Stand (p q : Nat → Nat) (n i j : Nat) (F : List Ch) : Prop := ∃ k, k ≤ n ∧ ((i = sI p k ∧ j = sI q k ∧ F = gl p q k) ∨ (i = p k ∧ j = q k ∧ F = gl p q (k + 1)))
theorem gl_empty {k : Nat} (h1 : sI p k = p k) (h2 : sI q k = q k) : gl p q (k + 1) = gl p q k := by
  show gl p q k ++ gapOf _ _ _ _ = _
  unfold gapOf
  rw [if_neg (by omega), List.append_nil]
theorem run_stand (hp : Places p n N R) (hq : Places q n M D) {i j : Nat} {F : List Ch} (h : Run R D N M i j F) : Stand p q n i j F := by
  induction h with
  | start => exact ⟨0, Nat.zero_le _, .inl ⟨rfl, rfl, rfl⟩⟩
  | @hit i j F h1 hi hj eR eD ih =>
    obtain ⟨k, hk, ⟨e1, e2, e3⟩ | ⟨e1, e2, e3⟩⟩ := ih
    · subst e1 e2
      have f1 := hp.hit hk hi eR
      have f2 := hq.hit hk hj eD
      have hkn : k < n := by
        rcases Nat.lt_or_ge k n with g | g
        · exact g
        · have : k = n := by omega
          subst this
          have := hp.fin
          omega
      exact ⟨k + 1, hkn, .inl ⟨by rw [sI_next, f1], by rw [sI_next, f2], by rw [e3, gl_empty f1 f2]⟩⟩
    · have hkn : k < n := by
        rcases Nat.lt_or_ge k n with g | g
        · exact g
        · have : k = n := by omega
          subst this
          have := hp.fin
          omega
      exact ⟨k + 1, hkn, .inl ⟨by rw [sI_next, e1], by rw [sI_next, e2], e3⟩⟩
  | @change i j i' j' F h1 hlt hno i1 i2 j1 j2 hR hD eR eD ih =>
    obtain ⟨k, hk, ⟨e1, e2, e3⟩ | ⟨e1, e2, e3⟩⟩ := ih
    · subst e1 e2
      have f1 := hp.run hk i1 i2 hR eR
      have f2 := hq.run hk j1 j2 hD eD
      refine ⟨k, hk, .inr ⟨f1, f2, ?_⟩⟩
      have hne : sI p k < p k ∨ sI q k < q k := by
        have b1 := hp.begin hk
        have b2 := hq.begin hk
        rcases Nat.lt_or_ge (sI p k) (p k) with g | g
        · exact .inl g
        · rcases Nat.lt_or_ge (sI q k) (q k) with g' | g'
          · exact .inr g'
          · exfalso
            have g1 : sI p k = p k := by omega
            have g2 : sI q k = q k := by omega
            have hkn : k < n := by
              rcases Nat.lt_or_ge k n with g | g
              · exact g
              · have : k = n := by omega
                subst this
                have := hp.fin
                have := hq.fin
                omega
            have l1 := hp.lt_end hkn
            have l2 := hq.lt_end hkn
            exact hno ⟨by omega, by omega, by rw [g1]; exact (hp.mark _ l1).2 ⟨k, hkn, rfl⟩, by rw [g2]; exact (hq.mark _ l2).2 ⟨k, hkn, rfl⟩⟩
      show F ++ _ = gl p q k ++ gapOf _ _ _ _
      unfold gapOf
      rw [if_pos hne, e3, f1, f2]
    · exfalso
      by_cases hkn : k < n
      · have l1 := hp.lt_end hkn
        have l2 := hq.lt_end hkn
        exact hno ⟨by omega, by omega, by rw [e1]; exact (hp.mark _ l1).2 ⟨k, hkn, rfl⟩, by rw [e2]; exact (hq.mark _ l2).2 ⟨k, hkn, rfl⟩⟩
      · have : k = n := by omega
        subst this
        have := hp.fin
        have := hq.fin
        omega
/-- **The script is the list of the gaps.** -/
theorem run_gaps (hp : Places p n N R) (hq : Places q n M D) {F : List Ch} (h : Run R D N M N M F) : F = gl p q (n + 1) := by
  obtain ⟨k, hk, ⟨e1, e2, e3⟩ | ⟨e1, e2, e3⟩⟩ := run_stand hp hq h
  · have b1 := hp.begin hk
    have b2 := hq.begin hk
    have c1 := hp.le_end hk
    have c2 := hq.le_end hk
    have : k = n := hp.at_end hk (by omega)
    subst this
    rw [e3, gl_empty (by omega) (by omega)]
  · have : k = n := hp.at_end hk e1.symm
    subst this
    exact e3
end
end Go.Proofs.Qxb6600330a.Plain
