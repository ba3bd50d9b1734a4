/-
  PLAIN MATHEMATICS, NO Go IN SIGHT: what compare's marks mean.
-/
import Derived.Test.Qxb6600330aRounds
set_option linter.unusedVariables false
namespace Go.Proofs.Qxb6600330a.Plain

/-- What lies behind a point, read from it on. -/
theorem S_from (M : Nat → Nat → Bool) {n m x y : Nat} (hx : x ≤ n) (hy : y ≤ m) : S M n m x y = L (fun i j => M (x + i) (y + j)) (n - x) (m - y) := by
  unfold S
  rw [← L_rev (fun i j => M (x + i) (y + j)) (n - x) (m - y)]
  refine L_congr _ _ fun i j hi hj => ?_
  unfold rev
  show M _ _ = M _ _
  congr 1 <;> omega

/-- The table of a box. -/
def bx (A B : Nat → Int) (alo blo : Nat) : Nat → Nat → Bool := tab (fun i => A (alo + i)) (fun j => B (blo + j))

/-- The values that are not marked, in order. -/
def kept (A : Nat → Int) (R : Nat → Bool) (lo n : Nat) : List Int := ((List.range' lo n).filter (fun i => !R i)).map A

theorem kept_zero (A : Nat → Int) (R : Nat → Bool) (lo : Nat) : kept A R lo 0 = [] := rfl
theorem kept_append (A : Nat → Int) (R : Nat → Bool) (lo n m : Nat) : kept A R lo (n + m) = kept A R lo n ++ kept A R (lo + n) m := by
  unfold kept
  rw [← List.range'_append_1, List.filter_append, List.map_append]
theorem kept_one (A : Nat → Int) {R : Nat → Bool} {lo : Nat} (h : R lo = false) : kept A R lo 1 = [A lo] := by
  simp [kept, List.range', h]
theorem kept_congr (A : Nat → Int) {R R' : Nat → Bool} {lo n : Nat} (h : ∀ i, lo ≤ i → i < lo + n → R i = R' i) : kept A R lo n = kept A R' lo n := by
  unfold kept
  congr 1
  refine List.filter_congr fun i hi => ?_
  rw [List.mem_range'_1] at hi
  rw [h i hi.1 hi.2]
theorem kept_none (A : Nat → Int) {R : Nat → Bool} {lo n : Nat} (h : ∀ i, lo ≤ i → i < lo + n → R i = true) : kept A R lo n = [] := by
  have : (List.range' lo n).filter (fun i => !R i) = [] := by
    rw [List.filter_eq_nil_iff]
    intro i hi
    rw [List.mem_range'_1] at hi
    rw [h i hi.1 hi.2]
    simp
  unfold kept
  rw [this]; rfl

/-- WHAT compare DOES TO THE MARKS OF A BOX. -/
structure Cmp (A B : Nat → Int) (mc : Nat) (alo ahi blo bhi : Nat) (R D R' D' : Nat → Bool) : Prop where
  outR : ∀ i, ¬ (alo ≤ i ∧ i < ahi) → R' i = R i
  outD : ∀ j, ¬ (blo ≤ j ∧ j < bhi) → D' j = D j
  same : kept A R' alo (ahi - alo) = kept B D' blo (bhi - blo)
  le : (kept A R' alo (ahi - alo)).length ≤ L (bx A B alo blo) (ahi - alo) (bhi - blo)
  opt : fewest (bx A B alo blo) (ahi - alo) (bhi - blo) ≤ 2 * mc → (kept A R' alo (ahi - alo)).length = L (bx A B alo blo) (ahi - alo) (bhi - blo)

section
variable {A B : Nat → Int} {mc alo ahi blo bhi : Nat} {R D R' D' R1 D1 : Nat → Bool}

/-- The first lines are the same. -/
theorem cmp_first (ha : alo < ahi) (hb : blo < bhi) (he : A alo = B blo) (hR : R alo = false) (hD : D blo = false) (h : Cmp A B mc (alo + 1) ahi (blo + 1) bhi R D R' D') : Cmp A B mc alo ahi blo bhi R D R' D' := by
  have r0 : R' alo = false := by rw [h.outR alo (by omega)]; exact hR
  have d0 : D' blo = false := by rw [h.outD blo (by omega)]; exact hD
  have ea : kept A R' alo (ahi - alo) = A alo :: kept A R' (alo + 1) (ahi - (alo + 1)) := by
    rw [show ahi - alo = 1 + (ahi - (alo + 1)) from by omega, kept_append, kept_one A r0]; rfl
  have eb : kept B D' blo (bhi - blo) = B blo :: kept B D' (blo + 1) (bhi - (blo + 1)) := by
    rw [show bhi - blo = 1 + (bhi - (blo + 1)) from by omega, kept_append, kept_one B d0]; rfl
  have hM : bx A B alo blo 0 0 = true := by unfold bx; rw [tab_true]; exact he
  have hL : L (bx A B alo blo) (ahi - alo) (bhi - blo) = L (bx A B (alo + 1) (blo + 1)) (ahi - (alo + 1)) (bhi - (blo + 1)) + 1 := by
    have h1 := S_zero (bx A B alo blo) (ahi - alo) (bhi - blo)
    have h2 := S_hit (M := bx A B alo blo) (n := ahi - alo) (m := bhi - blo) (x := 0) (y := 0) (by omega) (by omega) hM
    have h3 := S_from (bx A B alo blo) (n := ahi - alo) (m := bhi - blo) (x := 0 + 1) (y := 0 + 1) (by omega) (by omega)
    rw [h1, h3] at h2
    have h4 : (fun i j => bx A B alo blo (0 + 1 + i) (0 + 1 + j)) = bx A B (alo + 1) (blo + 1) := by
      funext i j
      unfold bx tab
      show decide (A (alo + (0 + 1 + i)) = B (blo + (0 + 1 + j))) = decide (A (alo + 1 + i) = B (blo + 1 + j))
      rw [show alo + (0 + 1 + i) = alo + 1 + i from by omega, show blo + (0 + 1 + j) = blo + 1 + j from by omega]
    rw [h4] at h2
    rw [h2, show ahi - alo - (0 + 1) = ahi - (alo + 1) from by omega, show bhi - blo - (0 + 1) = bhi - (blo + 1) from by omega]
  refine ⟨fun i hi => h.outR i (by omega), fun j hj => h.outD j (by omega), ?_, ?_, fun hf => ?_⟩
  · rw [ea, eb, he, h.same]
  · rw [ea, hL]; have := h.le; simp; omega
  · have := h.opt (by
      have q1 := dist_eq (bx A B alo blo) (ahi - alo) (bhi - blo)
      have q2 := dist_eq (bx A B (alo + 1) (blo + 1)) (ahi - (alo + 1)) (bhi - (blo + 1))
      unfold fewest at hf ⊢
      omega)
    rw [ea, hL]; simp; omega

/-- The last lines are the same. -/
theorem cmp_last (ha : alo < ahi) (hb : blo < bhi) (he : A (ahi - 1) = B (bhi - 1)) (hR : R (ahi - 1) = false) (hD : D (bhi - 1) = false) (h : Cmp A B mc alo (ahi - 1) blo (bhi - 1) R D R' D') : Cmp A B mc alo ahi blo bhi R D R' D' := by
  have r0 : R' (ahi - 1) = false := by rw [h.outR (ahi - 1) (by omega)]; exact hR
  have d0 : D' (bhi - 1) = false := by rw [h.outD (bhi - 1) (by omega)]; exact hD
  have ea : kept A R' alo (ahi - alo) = kept A R' alo (ahi - 1 - alo) ++ [A (ahi - 1)] := by
    rw [show ahi - alo = (ahi - 1 - alo) + 1 from by omega, kept_append, show alo + (ahi - 1 - alo) = ahi - 1 from by omega, kept_one A r0]
  have eb : kept B D' blo (bhi - blo) = kept B D' blo (bhi - 1 - blo) ++ [B (bhi - 1)] := by
    rw [show bhi - blo = (bhi - 1 - blo) + 1 from by omega, kept_append, show blo + (bhi - 1 - blo) = bhi - 1 from by omega, kept_one B d0]
  have hM : bx A B alo blo (ahi - 1 - alo) (bhi - 1 - blo) = true := by
    unfold bx
    rw [tab_true, show alo + (ahi - 1 - alo) = ahi - 1 from by omega, show blo + (bhi - 1 - blo) = bhi - 1 from by omega]; exact he
  have hL : L (bx A B alo blo) (ahi - alo) (bhi - blo) = L (bx A B alo blo) (ahi - 1 - alo) (bhi - 1 - blo) + 1 := by
    rw [← L_hit hM, show ahi - alo = ahi - 1 - alo + 1 from by omega, show bhi - blo = bhi - 1 - blo + 1 from by omega]
  refine ⟨fun i hi => h.outR i (by omega), fun j hj => h.outD j (by omega), ?_, ?_, fun hf => ?_⟩
  · rw [ea, eb, he, h.same]
  · rw [ea, hL]; have := h.le; simp; omega
  · have := h.opt (by
      have q1 := dist_eq (bx A B alo blo) (ahi - alo) (bhi - blo)
      have q2 := dist_eq (bx A B alo blo) (ahi - 1 - alo) (bhi - 1 - blo)
      unfold fewest at hf ⊢
      omega)
    rw [ea, hL]; simp; omega

/-- Nothing is left of the first list: all of the second are added. -/
theorem cmp_added (ha : alo = ahi) (hR : ∀ i, R' i = R i) (hD : ∀ j, ¬ (blo ≤ j ∧ j < bhi) → D' j = D j) (hm : ∀ j, blo ≤ j → j < bhi → D' j = true) : Cmp A B mc alo ahi blo bhi R D R' D' := by
  subst ha
  have e1 : kept A R' alo (alo - alo) = [] := by rw [Nat.sub_self]; rfl
  have e2 : kept B D' blo (bhi - blo) = [] := kept_none B fun i h1 h2 => hm i h1 (by omega)
  refine ⟨fun i _ => hR i, hD, by rw [e1, e2], by rw [e1]; exact Nat.zero_le _, fun _ => ?_⟩
  rw [e1, Nat.sub_self, L_zero_left]; rfl
/-- Nothing is left of the second list: all of the first are removed. -/
theorem cmp_removed (hb : blo = bhi) (hD : ∀ j, D' j = D j) (hR : ∀ i, ¬ (alo ≤ i ∧ i < ahi) → R' i = R i) (hm : ∀ i, alo ≤ i → i < ahi → R' i = true) : Cmp A B mc alo ahi blo bhi R D R' D' := by
  subst hb
  have e1 : kept A R' alo (ahi - alo) = [] := kept_none A fun i h1 h2 => hm i h1 (by omega)
  have e2 : kept B D' blo (blo - blo) = [] := by rw [Nat.sub_self]; rfl
  refine ⟨hR, fun j _ => hD j, by rw [e1, e2], by rw [e1]; exact Nat.zero_le _, fun _ => ?_⟩
  rw [e1, Nat.sub_self, L_zero_right]; rfl

/-- The two parts beside split's point. -/
theorem cmp_split {X Y : Nat} (ha : alo ≤ ahi) (hb : blo ≤ bhi) (hin : Inside (bx A B alo blo) (ahi - alo) (bhi - blo) mc X Y) (h1 : Cmp A B mc alo (alo + X) blo (blo + Y) R D R1 D1)
    (h2 : Cmp A B mc (alo + X) ahi (blo + Y) bhi R1 D1 R' D') : Cmp A B mc alo ahi blo bhi R D R' D' := by
  obtain ⟨hX, hY, _, _, hopt⟩ := hin
  have ea : kept A R' alo (ahi - alo) = kept A R1 alo (alo + X - alo) ++ kept A R' (alo + X) (ahi - (alo + X)) := by
    rw [show ahi - alo = (alo + X - alo) + (ahi - (alo + X)) from by omega, kept_append, show alo + (alo + X - alo) = alo + X from by omega]
    congr 1
    exact kept_congr A fun i q1 q2 => h2.outR i (by omega)
  have eb : kept B D' blo (bhi - blo) = kept B D1 blo (blo + Y - blo) ++ kept B D' (blo + Y) (bhi - (blo + Y)) := by
    rw [show bhi - blo = (blo + Y - blo) + (bhi - (blo + Y)) from by omega, kept_append, show blo + (blo + Y - blo) = blo + Y from by omega]
    congr 1
    exact kept_congr B fun i q1 q2 => h2.outD i (by omega)
  have hS : S (bx A B alo blo) (ahi - alo) (bhi - blo) X Y = L (bx A B (alo + X) (blo + Y)) (ahi - (alo + X)) (bhi - (blo + Y)) := by
    rw [S_from _ hX hY, show ahi - (alo + X) = ahi - alo - X from by omega, show bhi - (blo + Y) = bhi - blo - Y from by omega]
    congr 1
    funext i j
    unfold bx tab
    show decide (A (alo + (X + i)) = B (blo + (Y + j))) = decide (A (alo + X + i) = B (blo + Y + j))
    rw [Nat.add_assoc, Nat.add_assoc]
  have t := through_le (bx A B alo blo) hX hY
  rw [hS] at t
  have l1 := h1.le
  have l2 := h2.le
  rw [show alo + X - alo = X from by omega, show blo + Y - blo = Y from by omega] at *
  refine ⟨fun i hi => ?_, fun j hj => ?_, ?_, ?_, fun hf => ?_⟩
  · rw [h2.outR i (by omega), h1.outR i (by omega)]
  · rw [h2.outD j (by omega), h1.outD j (by omega)]
  · rw [ea, eb, h2.same]
    congr 1
    have := h1.same
    rw [show alo + X - alo = X from by omega, show blo + Y - blo = Y from by omega] at this
    exact this
  · rw [ea]; simp; omega
  · have o := hopt hf
    have fo := o.2.2
    rw [hS] at fo
    have q0 := dist_eq (bx A B alo blo) (ahi - alo) (bhi - blo)
    have q1 := dist_eq (bx A B alo blo) X Y
    have q2 := dist_eq (bx A B (alo + X) (blo + Y)) (ahi - (alo + X)) (bhi - (blo + Y))
    have o1 := h1.opt (by
      rw [show alo + X - alo = X from by omega, show blo + Y - blo = Y from by omega]
      unfold fewest at hf ⊢; omega)
    have o2 := h2.opt (by unfold fewest at hf ⊢; omega)
    rw [show alo + X - alo = X from by omega, show blo + Y - blo = Y from by omega] at o1
    rw [ea]; simp; omega
end

/-- The rest of the work, once some of it is done. -/
def Done (A B : Nat → Int) (mc a0 a1 b0 b1 : Nat) (R0 D0 : Nat → Bool) (alo ahi blo bhi : Nat) (R D : Nat → Bool) : Prop :=
  ∀ R' D', Cmp A B mc alo ahi blo bhi R D R' D' → Cmp A B mc a0 a1 b0 b1 R0 D0 R' D'

theorem done_first {A B : Nat → Int} {mc a0 a1 b0 b1 alo ahi blo bhi : Nat} {R0 D0 R D : Nat → Bool} (t : Nat) (h : Done A B mc a0 a1 b0 b1 R0 D0 alo ahi blo bhi R D) (hall : ∀ u, u < t → A (alo + u) = B (blo + u)) (ha : alo + t ≤ ahi) (hb : blo + t ≤ bhi)
    (hR : ∀ i, alo ≤ i → i < ahi → R i = false) (hD : ∀ j, blo ≤ j → j < bhi → D j = false) : Done A B mc a0 a1 b0 b1 R0 D0 (alo + t) ahi (blo + t) bhi R D := by
  induction t with
  | zero => exact h
  | succ t ih =>
    intro R' D' hc
    exact ih (fun u hu => hall u (by omega)) (by omega) (by omega) R' D' (cmp_first (by omega) (by omega) (hall t (by omega)) (hR _ (by omega) (by omega)) (hD _ (by omega) (by omega)) hc)
theorem done_last {A B : Nat → Int} {mc a0 a1 b0 b1 alo ahi blo bhi : Nat} {R0 D0 R D : Nat → Bool} (t : Nat) (h : Done A B mc a0 a1 b0 b1 R0 D0 alo ahi blo bhi R D) (hall : ∀ u, u < t → A (ahi - 1 - u) = B (bhi - 1 - u)) (ha : alo + t ≤ ahi) (hb : blo + t ≤ bhi)
    (hR : ∀ i, alo ≤ i → i < ahi → R i = false) (hD : ∀ j, blo ≤ j → j < bhi → D j = false) : Done A B mc a0 a1 b0 b1 R0 D0 alo (ahi - t) blo (bhi - t) R D := by
  induction t with
  | zero => exact h
  | succ t ih =>
    intro R' D' hc
    refine ih (fun u hu => hall u (by omega)) (by omega) (by omega) R' D' (cmp_last (by omega) (by omega) ?_ (hR _ (by omega) (by omega)) (hD _ (by omega) (by omega)) ?_)
    · have := hall t (by omega)
      rw [show ahi - t - 1 = ahi - 1 - t from by omega, show bhi - t - 1 = bhi - 1 - t from by omega]
      exact this
    · rw [show ahi - t - 1 = ahi - (t + 1) from by omega, show bhi - t - 1 = bhi - (t + 1) from by omega]
      exact hc

end Go.Proofs.Qxb6600330a.Plain
