/-
  PLAIN MATHEMATICS, NO Go IN SIGHT: lists without repeats whose shared values stand in the same order.
-/
import Derived.Test.Qxb6600330aCmp
set_option linter.unusedVariables false
namespace Go.Proofs.Qxb6600330a.Plain

/-- A list without repeats that lies in another is no longer than it. -/
theorem length_le_of_nodup : ∀ (l1 l2 : List Nat), l1.Nodup → (∀ x, x ∈ l1 → x ∈ l2) → l1.length ≤ l2.length
  | [], _, _, _ => Nat.zero_le _
  | x :: t, l2, hn, hs => by
    rw [List.nodup_cons] at hn
    have hx : x ∈ l2 := hs x (List.mem_cons_self ..)
    have ih := length_le_of_nodup t (l2.erase x) hn.2 (fun y hy => by
      have hne : y ≠ x := fun e => hn.1 (e ▸ hy)
      exact (List.mem_erase_of_ne hne).2 (hs y (List.mem_cons_of_mem _ hy)))
    rw [List.length_erase_of_mem hx] at ih
    have : 0 < l2.length := List.length_pos_of_mem hx
    rw [List.length_cons]
    omega
theorem mem_of_nodup {l1 l2 : List Nat} (hn : l1.Nodup) (hs : ∀ x, x ∈ l1 → x ∈ l2) (hl : l2.length ≤ l1.length) : ∀ x, x ∈ l2 → x ∈ l1 := by
  intro x hx
  by_cases h : x ∈ l1
  · exact h
  · exfalso
    have := length_le_of_nodup (x :: l1) l2 (List.nodup_cons.2 ⟨h, hn⟩) (fun y hy => by
      rcases List.mem_cons.1 hy with e | e
      · exact e ▸ hx
      · exact hs y e)
    rw [List.length_cons] at this
    omega

/-- The shared values met among the first i. -/
structure Anch (A B : Nat → Int) (M i : Nat) (last : Int) (P : List (Nat × Nat)) : Prop where
  ok : ∀ p, p ∈ P → p.1 < i ∧ p.2 < M ∧ A p.1 = B p.2 ∧ (p.2 : Int) ≤ last
  all : ∀ t j, t < i → j < M → A t = B j → (t, j) ∈ P
  inc : P.Pairwise (fun p q => p.1 < q.1 ∧ p.2 < q.2)
  lb : -1 ≤ last ∧ last < M
  len : P.length ≤ i

section
variable {A B : Nat → Int} {M i N : Nat} {last : Int} {P : List (Nat × Nat)}
theorem anch_start : Anch A B M 0 (-1) [] :=
  ⟨fun p h => (by cases h), fun t j h => by omega, List.Pairwise.nil, by omega, Nat.le_refl _⟩
theorem anch_skip (h : Anch A B M i last P) (hno : ∀ j, j < M → ¬ A i = B j) : Anch A B M (i + 1) last P := by
  refine ⟨fun p hp => ?_, fun t j h1 h2 e => ?_, h.inc, h.lb, Nat.le_succ_of_le h.len⟩
  · obtain ⟨q1, q2⟩ := h.ok p hp
    exact ⟨by omega, q2⟩
  · by_cases et : t = i
    · subst et; exact absurd e (hno j h2)
    · exact h.all t j (by omega) h2 e
theorem anch_add (h : Anch A B M i last P) {pos : Nat} (hp : pos < M) (he : A i = B pos) (hlt : last < pos) (hd : ∀ s t, t < s → s < M → ¬ B s = B t) : Anch A B M (i + 1) pos (P ++ [(i, pos)]) := by
  refine ⟨fun p hp' => ?_, fun t j h1 h2 e => ?_, ?_, by omega, by rw [List.length_append]; have := h.len; simp; omega⟩
  · rcases List.mem_append.1 hp' with q | q
    · obtain ⟨q1, q2, q3, q4⟩ := h.ok p q
      exact ⟨by omega, q2, q3, by omega⟩
    · rw [List.mem_singleton] at q
      subst q
      exact ⟨by show i < i + 1; omega, hp, he, Int.le_refl _⟩
  · by_cases et : t = i
    · subst et
      have : j = pos := by
        rcases Nat.lt_trichotomy j pos with q | q | q
        · exact absurd (he ▸ e) (hd pos j q hp)
        · exact q
        · exact absurd (e ▸ he) (hd j pos q h2)
      subst this
      exact List.mem_append.2 (.inr (List.mem_singleton.2 rfl))
    · exact List.mem_append.2 (.inl (h.all t j (by omega) h2 e))
  · rw [List.pairwise_append]
    refine ⟨h.inc, List.pairwise_singleton _ _, fun a ha b hb => ?_⟩
    rw [List.mem_singleton] at hb
    subst hb
    obtain ⟨q1, q2, q3, q4⟩ := h.ok a ha
    exact ⟨q1, by show a.2 < pos; omega⟩

/-- A chain of matches is no longer than the longest. -/
theorem chain_le (T : Nat → Nat → Bool) (n m : Nat) : ∀ (P : List (Nat × Nat)) (x y : Nat), x ≤ n → y ≤ m → P.Pairwise (fun p q => p.1 < q.1 ∧ p.2 < q.2) → (∀ p, p ∈ P → x ≤ p.1 ∧ p.1 < n ∧ y ≤ p.2 ∧ p.2 < m ∧ T p.1 p.2 = true) → P.length ≤ S T n m x y
  | [], _, _, _, _, _, _ => Nat.zero_le _
  | (i, j) :: rest, x, y, hx, hy, hinc, hok => by
    rw [List.pairwise_cons] at hinc
    obtain ⟨q1, q2, q3, q4, q5⟩ := hok (i, j) (List.mem_cons_self ..)
    have q1 : x ≤ i := q1
    have q2 : i < n := q2
    have q3 : y ≤ j := q3
    have q4 : j < m := q4
    have ih := chain_le T n m rest (i + 1) (j + 1) (by omega) (by omega) hinc.2 (fun p hp => by
      obtain ⟨r1, r2, r3, r4, r5⟩ := hok p (List.mem_cons_of_mem _ hp)
      have := hinc.1 p hp
      exact ⟨this.1, r2, this.2, r4, r5⟩)
    have hh := S_hit (n := n) (m := m) q2 q4 q5
    have mono : S T n m i j ≤ S T n m x y := by
      unfold S
      have e1 := L_mono_right (rev T n m) (n - i) (i - x) (m - j)
      have e2 := L_mono_down (rev T n m) (n - i + (i - x)) (j - y) (m - j)
      rw [show n - i + (i - x) = n - x from by omega] at e1 e2
      rw [show m - j + (j - y) = m - y from by omega] at e2
      exact Nat.le_trans e1 e2
    rw [List.length_cons]
    omega
theorem anch_L (h : Anch A B M N last P) : P.length ≤ L (tab A B) N M := by
  have := chain_le (tab A B) N M P 0 0 (Nat.zero_le _) (Nat.zero_le _) h.inc (fun p hp => by
    obtain ⟨q1, q2, q3, q4⟩ := h.ok p hp
    exact ⟨Nat.zero_le _, q1, Nat.zero_le _, q2, tab_true.2 q3⟩)
  rw [S_zero] at this
  exact this

theorem mem_kept {A : Nat → Int} {R : Nat → Bool} {lo n : Nat} {v : Int} : v ∈ kept A R lo n ↔ ∃ i, lo ≤ i ∧ i < lo + n ∧ R i = false ∧ A i = v := by
  unfold kept
  rw [List.mem_map]
  constructor
  · rintro ⟨i, hi, e⟩
    rw [List.mem_filter, List.mem_range'_1] at hi
    exact ⟨i, hi.1.1, hi.1.2, by simpa using hi.2, e⟩
  · rintro ⟨i, h1, h2, h3, e⟩
    exact ⟨i, by rw [List.mem_filter, List.mem_range'_1]; exact ⟨⟨h1, h2⟩, by simp [h3]⟩, e⟩

/-- **Just the shared values are kept.** -/
theorem anch_exact {R D : Nat → Bool} (h : Anch A B M N last P) (hsame : kept A R 0 N = kept B D 0 M) (hlen : P.length ≤ (kept A R 0 N).length) :
    (∀ i, i < N → (R i = false ↔ ∃ j, (i, j) ∈ P)) ∧ (∀ j, j < M → (D j = false ↔ ∃ i, (i, j) ∈ P)) := by
  have sub1 : ∀ i, i ∈ (List.range' 0 N).filter (fun i => !R i) → i ∈ P.map (·.1) := by
    intro i hi
    rw [List.mem_filter, List.mem_range'_1] at hi
    have hv : A i ∈ kept A R 0 N := mem_kept.2 ⟨i, hi.1.1, hi.1.2, by simpa using hi.2, rfl⟩
    rw [hsame, mem_kept] at hv
    obtain ⟨j, _, hj, _, e⟩ := hv
    exact List.mem_map.2 ⟨(i, j), h.all i j (by omega) (by omega) e.symm, rfl⟩
  have sub2 : ∀ j, j ∈ (List.range' 0 M).filter (fun j => !D j) → j ∈ P.map (·.2) := by
    intro j hj
    rw [List.mem_filter, List.mem_range'_1] at hj
    have hv : B j ∈ kept B D 0 M := mem_kept.2 ⟨j, hj.1.1, hj.1.2, by simpa using hj.2, rfl⟩
    rw [← hsame, mem_kept] at hv
    obtain ⟨i, _, hi, _, e⟩ := hv
    exact List.mem_map.2 ⟨(i, j), h.all i j (by omega) (by omega) e, rfl⟩
  have l1 : (kept A R 0 N).length = ((List.range' 0 N).filter (fun i => !R i)).length := by unfold kept; rw [List.length_map]
  have l2 : (kept B D 0 M).length = ((List.range' 0 M).filter (fun j => !D j)).length := by unfold kept; rw [List.length_map]
  have b1 := mem_of_nodup ((List.nodup_range' (step := 1)).filter _) sub1 (by rw [List.length_map]; omega)
  have b2 := mem_of_nodup ((List.nodup_range' (step := 1)).filter _) sub2 (by rw [List.length_map, ← l2, ← hsame]; exact hlen)
  refine ⟨fun i hi => ⟨fun hr => ?_, fun ⟨j, hj⟩ => ?_⟩, fun j hj => ⟨fun hr => ?_, fun ⟨i, hi⟩ => ?_⟩⟩
  · obtain ⟨p, hp, e⟩ := List.mem_map.1 (sub1 i (by rw [List.mem_filter, List.mem_range'_1]; exact ⟨⟨Nat.zero_le _, by omega⟩, by simp [hr]⟩))
    obtain ⟨p1, p2⟩ := p
    exact ⟨p2, by have e : p1 = i := e; rw [← e]; exact hp⟩
  · have := b1 i (List.mem_map.2 ⟨(i, j), hj, rfl⟩)
    rw [List.mem_filter] at this
    simpa using this.2
  · obtain ⟨p, hp, e⟩ := List.mem_map.1 (sub2 j (by rw [List.mem_filter, List.mem_range'_1]; exact ⟨⟨Nat.zero_le _, by omega⟩, by simp [hr]⟩))
    obtain ⟨p1, p2⟩ := p
    exact ⟨p1, by have e : p2 = j := e; rw [← e]; exact hp⟩
  · have := b2 j (List.mem_map.2 ⟨(i, j), hi, rfl⟩)
    rw [List.mem_filter] at this
    simpa using this.2
end
end Go.Proofs.Qxb6600330a.Plain
