/-
  PLAIN: scripts of changes.
-/
import Derived.Test.Qxb6600330aAnch
set_option linter.unusedVariables false
namespace Go.Proofs.Qxb6600330a.Plain

structure Ch where
  b : Nat
  r : Nat
  a : Nat
  d : Nat
def Ch.zero : Ch := ⟨0, 0, 0, 0⟩
def cAt (F : List Ch) (k : Nat) : Ch := F.getD k Ch.zero
def pI (F : List Ch) (k : Nat) : Nat := if k = 0 then 0 else (cAt F (k - 1)).b + (cAt F (k - 1)).r
def pJ (F : List Ch) (k : Nat) : Nat := if k = 0 then 0 else (cAt F (k - 1)).a + (cAt F (k - 1)).d
def total : List Ch → Nat
  | [] => 0
  | c :: t => c.r + c.d + total t
theorem total_append : ∀ F G : List Ch, total (F ++ G) = total F + total G
  | [], G => by show total G = 0 + total G; omega
  | c :: t, G => by show c.r + c.d + total (t ++ G) = c.r + c.d + total t + total G; rw [total_append t G]; omega
section
variable {α : Type} {T U : Nat → α} {N M : Nat} {F : List Ch} {c : Ch}
/-- A change that may follow. -/
structure StepOk (T U : Nat → α) (N M i j k : Nat) (c : Ch) : Prop where
  b : i ≤ c.b
  a : j ≤ c.a
  keep : c.b - i = c.a - j
  apart : 0 < k → i < c.b
  same : ∀ t, t < c.b - i → T (i + t) = U (j + t)
  some : 0 < c.r + c.d
  bN : c.b + c.r ≤ N
  aM : c.a + c.d ≤ M
def Ok (T U : Nat → α) (N M : Nat) (F : List Ch) : Prop := ∀ k, k < F.length → StepOk T U N M (pI F k) (pJ F k) k (cAt F k)
theorem cAt_lt {k : Nat} (h : k < F.length) : cAt (F ++ [c]) k = cAt F k := by
  unfold cAt
  rw [List.getD_eq_getElem?_getD, List.getD_eq_getElem?_getD, List.getElem?_append_left h]
theorem cAt_last : cAt (F ++ [c]) F.length = c := by
  unfold cAt
  rw [List.getD_eq_getElem?_getD, List.getElem?_append_right (Nat.le_refl _)]
  simp
theorem pI_le {k : Nat} (h : k ≤ F.length) : pI (F ++ [c]) k = pI F k := by
  unfold pI
  by_cases e : k = 0
  · rw [if_pos e, if_pos e]
  · rw [if_neg e, if_neg e, cAt_lt (by omega)]
theorem pJ_le {k : Nat} (h : k ≤ F.length) : pJ (F ++ [c]) k = pJ F k := by
  unfold pJ
  by_cases e : k = 0
  · rw [if_pos e, if_pos e]
  · rw [if_neg e, if_neg e, cAt_lt (by omega)]
theorem pI_next (k : Nat) : pI F (k + 1) = (cAt F k).b + (cAt F k).r := by unfold pI; rw [if_neg (by omega)]; rfl
theorem pJ_next (k : Nat) : pJ F (k + 1) = (cAt F k).a + (cAt F k).d := by unfold pJ; rw [if_neg (by omega)]; rfl
theorem pI_snoc : pI (F ++ [c]) (F ++ [c]).length = c.b + c.r := by
  rw [List.length_append]
  show pI (F ++ [c]) (F.length + 1) = _
  rw [pI_next, cAt_last]
theorem pJ_snoc : pJ (F ++ [c]) (F ++ [c]).length = c.a + c.d := by
  rw [List.length_append]
  show pJ (F ++ [c]) (F.length + 1) = _
  rw [pJ_next, cAt_last]
theorem Ok.nil : Ok T U N M [] := fun k h => absurd h (by simp)
theorem Ok.snoc (h : Ok T U N M F) (hs : StepOk T U N M (pI F F.length) (pJ F F.length) F.length c) : Ok T U N M (F ++ [c]) := by
  intro k hk
  rw [List.length_append] at hk
  have hk : k < F.length + 1 := hk
  by_cases e : k = F.length
  · subst e
    rw [pI_le (Nat.le_refl _), pJ_le (Nat.le_refl _), cAt_last]; exact hs
  · rw [pI_le (by omega), pJ_le (by omega), cAt_lt (by omega)]; exact h k (by omega)
theorem pI_bound (h : Ok T U N M F) {k : Nat} (hk : k ≤ F.length) : pI F k ≤ N ∧ pJ F k ≤ M := by
  by_cases e : k = 0
  · subst e; exact ⟨Nat.zero_le _, Nat.zero_le _⟩
  · obtain ⟨k', rfl⟩ : ∃ k', k = k' + 1 := ⟨k - 1, by omega⟩
    rw [pI_next, pJ_next]
    exact ⟨(h k' (by omega)).bN, (h k' (by omega)).aM⟩
/-- What the script leaves at its end is the same. -/
structure EndOk (T U : Nat → α) (N M : Nat) (F : List Ch) : Prop where
  len : N - pI F F.length = M - pJ F F.length
  same : ∀ t, pI F F.length + t < N → T (pI F F.length + t) = U (pJ F F.length + t)
end

/-- Where the gathering of changes stands. -/
structure Gath (A B : Nat → Int) (R D : Nat → Bool) (N M i j : Nat) (F : List Ch) : Prop where
  ok : Ok A B N M F
  iN : i ≤ N
  jM : j ≤ M
  pi : pI F F.length ≤ i
  pj : pJ F F.length ≤ j
  keep : i - pI F F.length = j - pJ F F.length
  same : ∀ t, t < i - pI F F.length → A (pI F F.length + t) = B (pJ F F.length + t)
  rest : kept A R i (N - i) = kept B D j (M - j)
  free : F ≠ [] → i = pI F F.length → (i = N ∨ R i = false) ∧ (j = M ∨ D j = false)
  tot : total F + 2 * (kept A R 0 N).length = i + j + 2 * (kept A R i (N - i)).length
section
variable {A B : Nat → Int} {R D : Nat → Bool} {N M i j : Nat} {F : List Ch}
theorem kp_take {A : Nat → Int} {R : Nat → Bool} {i N : Nat} (h : i < N) (hR : R i = false) : kept A R i (N - i) = A i :: kept A R (i + 1) (N - (i + 1)) := by
  rw [show N - i = 1 + (N - (i + 1)) from by omega, kept_append, kept_one A hR]
  rfl
theorem kp_run {A : Nat → Int} {R : Nat → Bool} {i i' N : Nat} (h : i ≤ i') (h' : i' ≤ N) (hR : ∀ t, i ≤ t → t < i' → R t = true) : kept A R i (N - i) = kept A R i' (N - i') := by
  rw [show N - i = (i' - i) + (N - i') from by omega, kept_append, kept_none A (fun t h1 h2 => hR t h1 (by omega)), show i + (i' - i) = i' from by omega]
  rfl
theorem gath_start (h : kept A R 0 N = kept B D 0 M) : Gath A B R D N M 0 0 [] :=
  ⟨Ok.nil, Nat.zero_le _, Nat.zero_le _, Nat.zero_le _, Nat.zero_le _, rfl, fun t ht => absurd ht (by simp), h, fun h => absurd rfl h, by show 0 + _ = 0 + 0 + _; rw [Nat.sub_zero]⟩
theorem gath_hit (h : Gath A B R D N M i j F) (hi : i < N) (hj : j < M) (hR : R i = false) (hD : D j = false) : A i = B j ∧ Gath A B R D N M (i + 1) (j + 1) F := by
  have h1 := h.rest
  rw [kp_take hi hR, kp_take hj hD] at h1
  have e : A i = B j := by simpa using congrArg List.head? h1
  have e2 : kept A R (i + 1) (N - (i + 1)) = kept B D (j + 1) (M - (j + 1)) := by simpa using congrArg List.tail h1
  have p1 := h.pi
  have p2 := h.pj
  have p3 := h.keep
  refine ⟨e, h.ok, hi, hj, by omega, by omega, by omega, fun t ht => ?_, e2, fun _ q => by omega, ?_⟩
  · by_cases et : t < i - pI F F.length
    · exact h.same t et
    · have : t = i - pI F F.length := by omega
      rw [this, show pI F F.length + (i - pI F F.length) = i from by omega, show pJ F F.length + (i - pI F F.length) = j from by omega]
      exact e
  · have ht := h.tot
    rw [kp_take hi hR, List.length_cons] at ht
    omega
/-- A change begins only where one may. -/
theorem gath_may (h : Gath A B R D N M i j F) (hlt : i < N ∨ j < M) (hno : ¬ (i < N ∧ j < M ∧ R i = false ∧ D j = false)) : (F ≠ [] → pI F F.length < i) ∧ ((i < N ∧ R i = true) ∨ (j < M ∧ D j = true)) := by
  have key : (i < N → R i = false) → (j < M → D j = false) → False := fun a b => by
    have h1 := h.rest
    by_cases hi : i < N
    · by_cases hj : j < M
      · exact hno ⟨hi, hj, a hi, b hj⟩
      · rw [kp_take hi (a hi), show M - j = 0 from by omega] at h1
        simp [kept] at h1
    · have hj : j < M := by omega
      rw [kp_take hj (b hj), show N - i = 0 from by omega] at h1
      simp [kept] at h1
  refine ⟨fun hF => ?_, ?_⟩
  · have p1 := h.pi
    by_cases e : i = pI F F.length
    · exfalso
      obtain ⟨f1, f2⟩ := h.free hF e
      exact key (fun hi => f1.resolve_left (by omega)) (fun hj => f2.resolve_left (by omega))
    · omega
  · by_cases a : i < N ∧ R i = true
    · exact .inl a
    · by_cases b : j < M ∧ D j = true
      · exact .inr b
      · exfalso
        exact key (fun hi => by cases e : R i with
          | false => rfl
          | true => exact absurd ⟨hi, e⟩ a) (fun hj => by cases e : D j with
          | false => rfl
          | true => exact absurd ⟨hj, e⟩ b)
theorem gath_change (h : Gath A B R D N M i j F) (hlt : i < N ∨ j < M) (hno : ¬ (i < N ∧ j < M ∧ R i = false ∧ D j = false)) {i' j' : Nat} (hi : i ≤ i') (hi' : i' ≤ N) (hj : j ≤ j') (hj' : j' ≤ M)
    (hR : ∀ t, i ≤ t → t < i' → R t = true) (hD : ∀ t, j ≤ t → t < j' → D t = true) (eR : i' = N ∨ R i' = false) (eD : j' = M ∨ D j' = false) : Gath A B R D N M i' j' (F ++ [⟨i, i' - i, j, j' - j⟩]) := by
  obtain ⟨m1, m2⟩ := gath_may h hlt hno
  have hs : 0 < (i' - i) + (j' - j) := by
    rcases m2 with ⟨a, b⟩ | ⟨a, b⟩
    · have : i ≠ i' := fun e => by
        subst e
        rcases eR with q | q
        · omega
        · rw [b] at q; cases q
      omega
    · have : j ≠ j' := fun e => by
        subst e
        rcases eD with q | q
        · omega
        · rw [b] at q; cases q
      omega
  have eI : pI (F ++ [⟨i, i' - i, j, j' - j⟩]) (F ++ [(⟨i, i' - i, j, j' - j⟩ : Ch)]).length = i' := by rw [pI_snoc]; show i + (i' - i) = i'; omega
  have eJ : pJ (F ++ [⟨i, i' - i, j, j' - j⟩]) (F ++ [(⟨i, i' - i, j, j' - j⟩ : Ch)]).length = j' := by rw [pJ_snoc]; show j + (j' - j) = j'; omega
  refine ⟨h.ok.snoc ⟨h.pi, h.pj, h.keep, fun hk => m1 (fun e => by rw [e] at hk; simp at hk), h.same, hs, by show i + (i' - i) ≤ N; omega, by show j + (j' - j) ≤ M; omega⟩, hi', hj', by rw [eI]; exact Nat.le_refl _, by rw [eJ]; exact Nat.le_refl _, by rw [eI, eJ]; omega, fun t ht => by rw [eI] at ht; omega, ?_, fun _ _ => ⟨eR, eD⟩, ?_⟩
  · rw [← kp_run hi hi' hR, ← kp_run hj hj' hD]; exact h.rest
  · rw [total_append, ← kp_run hi hi' hR]
    have := h.tot
    show total F + ((i' - i) + (j' - j) + 0) + _ = _
    omega
theorem gath_end (h : Gath A B R D N M N M F) : Ok A B N M F ∧ EndOk A B N M F ∧ total F + 2 * (kept A R 0 N).length = N + M := by
  have p1 := h.pi
  refine ⟨h.ok, ⟨h.keep, fun t ht => h.same t (by omega)⟩, ?_⟩
  have := h.tot
  rw [Nat.sub_self] at this
  exact this
end
end Go.Proofs.Qxb6600330a.Plain
