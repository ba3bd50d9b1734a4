/-
  PLAIN MATHEMATICS: what the log of a script holds.
-/
import Derived.Below
set_option linter.unusedVariables false
namespace Go.Proofs.Qxb6000630a.Plain

def S (h : Nat → Int) : Nat → Int
  | 0 => 0
  | i + 1 => S h i + h i
/-- The hits at t or earlier, among the first i. -/
def Q (a h : Nat → Int) (t : Int) : Nat → Int
  | 0 => 0
  | i + 1 => Q a h t i + if a i ≤ t then h i else 0
/-- Times of nonzero hits never go back; no hit below 0. -/
structure Valid (a h : Nat → Int) (n : Nat) : Prop where
  pos : ∀ j, j < n → 0 ≤ h j
  up : ∀ i j, i < j → j < n → h i ≠ 0 → h j ≠ 0 → a i ≤ a j
/-- The log after the first i. -/
structure LogIs (a h : Nat → Int) (i : Nat) (L : List (Int × Int)) : Prop where
  frm : ∀ p, p ∈ L → (∃ j, j < i ∧ h j ≠ 0 ∧ a j = p.1) ∧ p.2 = Q a h p.1 i
  inc : L.Pairwise (fun p q => p.1 < q.1)
  all : ∀ j, j < i → h j ≠ 0 → ∃ p, p ∈ L ∧ p.1 = a j
  len : L.length ≤ i

section
variable {a h : Nat → Int} {i n : Nat} {L L0 : List (Int × Int)}
theorem S_pos (hv : ∀ j, j < n → 0 ≤ h j) : ∀ i, i ≤ n → 0 ≤ S h i
  | 0, _ => Int.le_refl _
  | i + 1, hi => by have := S_pos hv i (by omega); have := hv i (by omega); show 0 ≤ S h i + h i; omega
theorem S_mono (hv : ∀ j, j < n → 0 ≤ h j) {i : Nat} (hi : i ≤ n) : S h i ≤ S h n := by
  induction n with
  | zero => obtain rfl : i = 0 := by omega
            exact Int.le_refl _
  | succ n ih =>
    by_cases e : i = n + 1
    · subst e; exact Int.le_refl _
    · have := ih (fun j hj => hv j (by omega)) (by omega)
      have := hv n (by omega)
      show S h i ≤ S h n + h n
      omega
theorem Q_bounds (hv : ∀ j, j < n → 0 ≤ h j) (t : Int) : ∀ i, i ≤ n → 0 ≤ Q a h t i ∧ Q a h t i ≤ S h i
  | 0, _ => ⟨Int.le_refl _, Int.le_refl _⟩
  | i + 1, hi => by
    have := Q_bounds hv t i (by omega)
    have := hv i (by omega)
    show 0 ≤ Q a h t i + (if a i ≤ t then h i else 0) ∧ Q a h t i + (if a i ≤ t then h i else 0) ≤ S h i + h i
    split <;> omega
theorem Q_all (t : Int) : ∀ i, (∀ j, j < i → h j ≠ 0 → a j ≤ t) → Q a h t i = S h i
  | 0, _ => rfl
  | i + 1, hi => by
    have ih := Q_all t i (fun j hj => hi j (by omega))
    show Q a h t i + (if a i ≤ t then h i else 0) = S h i + h i
    rw [ih]
    by_cases e : h i = 0
    · rw [e]; simp
    · rw [if_pos (hi i (by omega) e)]
theorem log_start : LogIs a h 0 [] := ⟨fun p hp => (by cases hp), List.Pairwise.nil, fun j hj => by omega, Nat.le_refl _⟩
theorem log_zero (hl : LogIs a h i L) (h0 : h i = 0) : LogIs a h (i + 1) L := by
  refine ⟨fun p hp => ?_, hl.inc, fun j hj hn => ?_, by have := hl.len; omega⟩
  · obtain ⟨⟨j, h1, h2, h3⟩, h4⟩ := hl.frm p hp
    refine ⟨⟨j, by omega, h2, h3⟩, ?_⟩
    rw [h4]
    show _ = Q a h p.1 i + (if a i ≤ p.1 then h i else 0)
    rw [h0]; simp
  · by_cases e : j = i
    · subst e; exact absurd h0 hn
    · exact hl.all j (by omega) hn
theorem log_add (hv : Valid a h n) (hi : i < n) (hn : h i ≠ 0)
    (frm : ∀ p, p ∈ L0 → (∃ j, j < i ∧ h j ≠ 0 ∧ a j = p.1) ∧ p.2 = Q a h p.1 i) (inc : L0.Pairwise (fun p q => p.1 < q.1)) (lt : ∀ p, p ∈ L0 → p.1 < a i)
    (all : ∀ j, j < i → h j ≠ 0 → (∃ p, p ∈ L0 ∧ p.1 = a j) ∨ a j = a i) (len : L0.length ≤ i) : LogIs a h (i + 1) (L0 ++ [(a i, S h (i + 1))]) := by
  refine ⟨fun p hp => ?_, ?_, fun j hj hjn => ?_, by rw [List.length_append]; simp; omega⟩
  · rcases List.mem_append.1 hp with q | q
    · obtain ⟨⟨j, h1, h2, h3⟩, h4⟩ := frm p q
      refine ⟨⟨j, by omega, h2, h3⟩, ?_⟩
      have := lt p q
      show p.2 = Q a h p.1 i + (if a i ≤ p.1 then h i else 0)
      rw [if_neg (by omega), h4]; simp
    · rw [List.mem_singleton] at q
      subst q
      refine ⟨⟨i, by omega, hn, rfl⟩, ?_⟩
      refine (Q_all _ _ fun j hj hjn => ?_).symm
      by_cases e : j = i
      · subst e; exact Int.le_refl _
      · exact hv.up j i (by omega) hi hjn hn
  · rw [List.pairwise_append]
    refine ⟨inc, List.pairwise_singleton _ _, fun x hx y hy => ?_⟩
    rw [List.mem_singleton] at hy
    subst hy
    exact lt x hx
  · by_cases e : j = i
    · subst e
      exact ⟨_, List.mem_append.2 (.inr (List.mem_singleton.2 rfl)), rfl⟩
    · rcases all j (by omega) hjn with ⟨p, hp, hq⟩ | q
      · exact ⟨p, List.mem_append.2 (.inl hp), hq⟩
      · exact ⟨_, List.mem_append.2 (.inr (List.mem_singleton.2 rfl)), q.symm⟩
theorem log_le (hv : Valid a h n) (hi : i < n) (hn : h i ≠ 0) (hl : LogIs a h i L) : ∀ p, p ∈ L → p.1 ≤ a i := fun p hp => by
  obtain ⟨⟨j, h1, h2, h3⟩, _⟩ := hl.frm p hp
  rw [← h3]
  exact hv.up j i h1 hi h2 hn
/-- The last time is another. -/
theorem log_new (hv : Valid a h n) (hi : i < n) (hn : h i ≠ 0) (hl : LogIs a h i L) (hne : ∀ L0 p, L = L0 ++ [p] → p.1 ≠ a i) : LogIs a h (i + 1) (L ++ [(a i, S h (i + 1))]) := by
  refine log_add hv hi hn hl.frm hl.inc (fun p hp => ?_) (fun j hj hjn => .inl (hl.all j hj hjn)) hl.len
  have hle := log_le hv hi hn hl
  rcases List.eq_nil_or_concat L with e | ⟨L0, q, e⟩
  · subst e; cases hp
  · have e' : L = L0 ++ [q] := by rw [e]; simp
    have h1 := hne L0 q e'
    have h2 := hle q (by rw [e']; simp)
    have h3 := hl.inc
    rw [e', List.pairwise_append] at h3
    rw [e'] at hp
    rcases List.mem_append.1 hp with z | z
    · have := h3.2.2 p z q (by simp)
      omega
    · rw [List.mem_singleton] at z
      subst z
      omega
/-- The last time is the same. -/
theorem log_same {p : Int × Int} (hv : Valid a h n) (hi : i < n) (hn : h i ≠ 0) (hl : LogIs a h i (L0 ++ [p])) (he : p.1 = a i) : LogIs a h (i + 1) (L0 ++ [(a i, S h (i + 1))]) := by
  have h3 := hl.inc
  rw [List.pairwise_append] at h3
  refine log_add hv hi hn (fun q hq => hl.frm q (List.mem_append.2 (.inl hq))) h3.1 (fun q hq => ?_) (fun j hj hjn => ?_) ?_
  · have := h3.2.2 q hq p (by simp)
    omega
  · obtain ⟨q, hq, e⟩ := hl.all j hj hjn
    rcases List.mem_append.1 hq with z | z
    · exact .inl ⟨q, z, e⟩
    · rw [List.mem_singleton] at z
      subst z
      exact .inr (by rw [← e, he])
  · have := hl.len
    rw [List.length_append] at this
    simp at this
    omega
theorem log_inc (hl : LogIs a h i L) {k : Nat} (hk : k + 1 < L.length) : (L.getD k (0, 0)).1 < (L.getD (k + 1) (0, 0)).1 := by
  have := List.pairwise_iff_getElem.1 hl.inc k (k + 1) (by omega) hk (by omega)
  rw [List.getD_eq_getElem?_getD, List.getD_eq_getElem?_getD, List.getElem?_eq_getElem (by omega), List.getElem?_eq_getElem hk]
  exact this
theorem mem_getD {k : Nat} (hk : k < L.length) : L.getD k (0, 0) ∈ L := by
  rw [List.getD_eq_getElem?_getD, List.getElem?_eq_getElem hk]
  exact List.getElem_mem hk
theorem getD_mem {p : Int × Int} (hp : p ∈ L) : ∃ k, k < L.length ∧ L.getD k (0, 0) = p := by
  obtain ⟨k, hk, e⟩ := List.getElem_of_mem hp
  exact ⟨k, hk, by rw [List.getD_eq_getElem?_getD, List.getElem?_eq_getElem hk]; exact e⟩
end
end Go.Proofs.Qxb6000630a.Plain
