/-
  PLAIN MATHEMATICS, NO Go IN SIGHT: the longest common subsequence of two rows, told by a table 'M i j' ('line i of the first is line j of the second').
-/
set_option linter.unusedVariables false
namespace Go.Proofs.Qxb6600330a.Plain

/-- One row of the textbook's table. -/
def lrow (M : Nat → Nat → Bool) (i : Nat) (prev : Nat → Nat) : Nat → Nat
  | 0 => 0
  | j + 1 => if M i j = true then prev j + 1 else max (prev (j + 1)) (lrow M i prev j)

/-- The length of a longest common subsequence of the first i and the first j lines. -/
def L (M : Nat → Nat → Bool) : Nat → Nat → Nat
  | 0 => fun _ => 0
  | i + 1 => lrow M i (L M i)

theorem L_zero_left (M : Nat → Nat → Bool) (j : Nat) : L M 0 j = 0 := rfl
theorem L_zero_right (M : Nat → Nat → Bool) (i : Nat) : L M i 0 = 0 := by
  cases i <;> rfl
theorem L_succ (M : Nat → Nat → Bool) (i j : Nat) :
    L M (i + 1) (j + 1) = if M i j = true then L M i j + 1 else max (L M i (j + 1)) (L M (i + 1) j) := rfl
theorem L_hit {M : Nat → Nat → Bool} {i j : Nat} (h : M i j = true) : L M (i + 1) (j + 1) = L M i j + 1 := by
  rw [L_succ, if_pos h]
theorem L_miss {M : Nat → Nat → Bool} {i j : Nat} (h : ¬ M i j = true) :
    L M (i + 1) (j + 1) = max (L M i (j + 1)) (L M (i + 1) j) := by
  rw [L_succ, if_neg h]

/-- A step right or down raises the length by nothing or by one. -/
theorem L_steps (M : Nat → Nat → Bool) (i : Nat) :
    (∀ j, L M i j ≤ L M i (j + 1) ∧ L M i (j + 1) ≤ L M i j + 1) ∧
    (∀ j, L M i j ≤ L M (i + 1) j ∧ L M (i + 1) j ≤ L M i j + 1) := by
  induction i with
  | zero =>
    have h0 : ∀ j, L M 0 j = 0 := L_zero_left M
    refine ⟨fun j => by rw [h0, h0]; omega, fun j => ?_⟩
    induction j with
    | zero => rw [L_zero_right, L_zero_right]; omega
    | succ j ih =>
      rw [L_succ, h0, h0] at *
      split <;> omega
  | succ i ih =>
    obtain ⟨ih1, ih2⟩ := ih
    have right : ∀ j, L M (i + 1) j ≤ L M (i + 1) (j + 1) ∧ L M (i + 1) (j + 1) ≤ L M (i + 1) j + 1 := by
      intro j
      have a := ih1 j
      have b := ih2 j
      have c := ih2 (j + 1)
      have e := L_succ M i j
      by_cases h : M i j = true
      · rw [if_pos h] at e; omega
      · rw [if_neg h] at e; omega
    refine ⟨right, fun j => ?_⟩
    induction j with
    | zero => rw [L_zero_right, L_zero_right]; omega
    | succ j ihj =>
      have a := right j
      rw [L_succ M (i + 1) j]
      split <;> omega

theorem L_right (M : Nat → Nat → Bool) (i j : Nat) : L M i j ≤ L M (i + 1) j ∧ L M (i + 1) j ≤ L M i j + 1 := (L_steps M i).2 j
theorem L_down (M : Nat → Nat → Bool) (i j : Nat) : L M i j ≤ L M i (j + 1) ∧ L M i (j + 1) ≤ L M i j + 1 := (L_steps M i).1 j
theorem L_diag (M : Nat → Nat → Bool) (i j : Nat) : L M i j ≤ L M (i + 1) (j + 1) ∧ L M (i + 1) (j + 1) ≤ L M i j + 1 := by
  have a := L_right M i j
  have b := L_down M i j
  have c := L_right M i (j + 1)
  have e := L_succ M i j
  by_cases h : M i j = true
  · rw [if_pos h] at e; omega
  · rw [if_neg h] at e; omega

theorem L_le (M : Nat → Nat → Bool) (i j : Nat) : L M i j ≤ i ∧ L M i j ≤ j := by
  constructor
  · induction i with
    | zero => rw [L_zero_left]; omega
    | succ i ih => have := L_right M i j; omega
  · induction j with
    | zero => rw [L_zero_right]; omega
    | succ j ih => have := L_down M i j; omega

theorem L_mono_right (M : Nat → Nat → Bool) (i t j : Nat) : L M i j ≤ L M (i + t) j := by
  induction t with
  | zero => exact Nat.le_refl _
  | succ t ih => have := L_right M (i + t) j; exact Nat.le_trans ih this.1
theorem L_mono_down (M : Nat → Nat → Bool) (i t j : Nat) : L M i j ≤ L M i (j + t) := by
  induction t with
  | zero => exact Nat.le_refl _
  | succ t ih => have := L_down M i (j + t); exact Nat.le_trans ih this.1

/-- Only the table's part that is looked at counts. -/
theorem L_congr {M N : Nat → Nat → Bool} : ∀ (i j : Nat), (∀ x y, x < i → y < j → M x y = N x y) → L M i j = L N i j := by
  intro i
  induction i with
  | zero => intro j _; rfl
  | succ i ih =>
    intro j
    induction j with
    | zero => intro _; rw [L_zero_right, L_zero_right]
    | succ j ihj =>
      intro h
      have e1 := ih j (fun x y hx hy => h x y (by omega) (by omega))
      have e2 := ih (j + 1) (fun x y hx hy => h x y (by omega) (by omega))
      have e3 := ihj (fun x y hx hy => h x y (by omega) (by omega))
      rw [L_succ, L_succ, e1, e2, e3, h i j (by omega) (by omega)]

/-- The number of edits from the start to the point (x, y). -/
def dist (M : Nat → Nat → Bool) (x y : Nat) : Nat := x + y - 2 * L M x y
theorem dist_eq (M : Nat → Nat → Bool) (x y : Nat) : dist M x y + 2 * L M x y = x + y := by
  have := L_le M x y
  unfold dist; omega

/-- The table read from the end. -/
def rev (M : Nat → Nat → Bool) (n m : Nat) : Nat → Nat → Bool := fun i j => M (n - 1 - i) (m - 1 - j)

/-- The length of a longest common subsequence of what lies behind the point (x, y). -/
def S (M : Nat → Nat → Bool) (n m x y : Nat) : Nat := L (rev M n m) (n - x) (m - y)

theorem S_end_left (M : Nat → Nat → Bool) (n m y : Nat) : S M n m n y = 0 := by
  unfold S; rw [Nat.sub_self, L_zero_left]
theorem S_end_right (M : Nat → Nat → Bool) (n m x : Nat) : S M n m x m = 0 := by
  unfold S; rw [Nat.sub_self, L_zero_right]
theorem S_step (M : Nat → Nat → Bool) {n m x y : Nat} (hx : x < n) (hy : y < m) :
    S M n m x y = if M x y = true then S M n m (x + 1) (y + 1) + 1 else max (S M n m (x + 1) y) (S M n m x (y + 1)) := by
  unfold S
  have e1 : n - x = (n - (x + 1)) + 1 := by omega
  have e2 : m - y = (m - (y + 1)) + 1 := by omega
  rw [e1, e2, L_succ]
  have e3 : rev M n m (n - (x + 1)) (m - (y + 1)) = M x y := by
    unfold rev; congr 1 <;> omega
  rw [e3]
theorem S_right (M : Nat → Nat → Bool) {n m x : Nat} (y : Nat) (hx : x < n) : S M n m (x + 1) y ≤ S M n m x y ∧ S M n m x y ≤ S M n m (x + 1) y + 1 := by
  unfold S
  have e1 : n - x = (n - (x + 1)) + 1 := by omega
  rw [e1]; exact L_right _ _ _
theorem S_down (M : Nat → Nat → Bool) {n m y : Nat} (x : Nat) (hy : y < m) : S M n m x (y + 1) ≤ S M n m x y ∧ S M n m x y ≤ S M n m x (y + 1) + 1 := by
  unfold S
  have e1 : m - y = (m - (y + 1)) + 1 := by omega
  rw [e1]; exact L_down _ _ _
theorem S_hit {M : Nat → Nat → Bool} {n m x y : Nat} (hx : x < n) (hy : y < m) (h : M x y = true) : S M n m x y = S M n m (x + 1) (y + 1) + 1 := by
  rw [S_step M hx hy, if_pos h]

/-- No way through (x, y) keeps more than the best. -/
theorem T_le (M : Nat → Nat → Bool) (n m : Nat) : ∀ (t x y : Nat), x ≤ n → y ≤ m → (n - x) + (m - y) ≤ t → L M x y + S M n m x y ≤ L M n m := by
  intro t
  induction t with
  | zero =>
    intro x y hx hy h
    obtain rfl : x = n := by omega
    obtain rfl : y = m := by omega
    rw [S_end_left]; omega
  | succ t ih =>
    intro x y hx hy h
    by_cases ex : x = n
    · subst ex
      rw [S_end_left]
      have := L_mono_down M x (m - y) y
      rw [show y + (m - y) = m from by omega] at this
      omega
    · by_cases ey : y = m
      · subst ey
        rw [S_end_right]
        have := L_mono_right M x (n - x) y
        rw [show x + (n - x) = n from by omega] at this
        omega
      · have hx' : x < n := by omega
        have hy' : y < m := by omega
        rw [S_step M hx' hy']
        split
        · rename_i hM
          have := ih (x + 1) (y + 1) (by omega) (by omega) (by omega)
          rw [L_hit hM] at this
          omega
        · have a := ih (x + 1) y (by omega) (by omega) (by omega)
          have b := ih x (y + 1) (by omega) (by omega) (by omega)
          have c := L_right M x y
          have d := L_down M x y
          omega
theorem through_le (M : Nat → Nat → Bool) {n m x y : Nat} (hx : x ≤ n) (hy : y ≤ m) : L M x y + S M n m x y ≤ L M n m :=
  T_le M n m _ x y hx hy (Nat.le_refl _)

theorem rev_rev {M : Nat → Nat → Bool} {n m i j : Nat} (hi : i < n) (hj : j < m) : rev (rev M n m) n m i j = M i j := by
  unfold rev; congr 1 <;> omega
theorem S_rev (M : Nat → Nat → Bool) {n m x y : Nat} (hx : x ≤ n) (hy : y ≤ m) : S (rev M n m) n m x y = L M (n - x) (m - y) := by
  unfold S
  exact L_congr _ _ fun i j hi hj => rev_rev (by omega) (by omega)
/-- Read from the end the best is the same. -/
theorem L_rev (M : Nat → Nat → Bool) (n m : Nat) : L (rev M n m) n m = L M n m := by
  have a := through_le M (n := n) (m := m) (x := 0) (y := 0) (by omega) (by omega)
  have b := through_le (rev M n m) (n := n) (m := m) (x := 0) (y := 0) (by omega) (by omega)
  rw [S_rev M (by omega) (by omega)] at b
  unfold S at a
  rw [L_zero_left] at a b
  simp only [Nat.sub_zero] at a b
  omega
theorem S_zero (M : Nat → Nat → Bool) (n m : Nat) : S M n m 0 0 = L M n m := by
  have := L_rev M n m
  unfold S
  simpa using this

/-- (x, y) lies on a path of the fewest edits. -/
def Opt (M : Nat → Nat → Bool) (n m x y : Nat) : Prop := x ≤ n ∧ y ≤ m ∧ L M x y + S M n m x y = L M n m

theorem opt_start (M : Nat → Nat → Bool) (n m : Nat) : Opt M n m 0 0 := ⟨by omega, by omega, by rw [S_zero, L_zero_left]; omega⟩
theorem opt_end (M : Nat → Nat → Bool) (n m : Nat) : Opt M n m n m := ⟨by omega, by omega, by rw [S_end_left]; omega⟩

theorem opt_rev {M : Nat → Nat → Bool} {n m x y : Nat} (h : Opt M n m x y) : Opt (rev M n m) n m (n - x) (m - y) := by
  obtain ⟨hx, hy, e⟩ := h
  refine ⟨by omega, by omega, ?_⟩
  rw [S_rev M (by omega) (by omega), L_rev, show n - (n - x) = x from by omega, show m - (m - y) = y from by omega]
  unfold S at e
  omega

/-- The edits behind the point (x, y). -/
def rest (M : Nat → Nat → Bool) (n m x y : Nat) : Nat := dist (rev M n m) (n - x) (m - y)
/-- The fewest edits of all. -/
def fewest (M : Nat → Nat → Bool) (n m : Nat) : Nat := dist M n m

theorem rest_eq (M : Nat → Nat → Bool) (n m x y : Nat) : rest M n m x y + 2 * S M n m x y = (n - x) + (m - y) := dist_eq _ _ _
theorem fewest_le (M : Nat → Nat → Bool) {n m x y : Nat} (hx : x ≤ n) (hy : y ≤ m) : fewest M n m ≤ dist M x y + rest M n m x y := by
  have a := dist_eq M x y
  have b := rest_eq M n m x y
  have c := dist_eq M n m
  have d := through_le M hx hy
  unfold fewest
  omega
theorem fewest_opt {M : Nat → Nat → Bool} {n m x y : Nat} (h : Opt M n m x y) : dist M x y + rest M n m x y = fewest M n m := by
  obtain ⟨hx, hy, e⟩ := h
  have a := dist_eq M x y
  have b := rest_eq M n m x y
  have c := dist_eq M n m
  unfold fewest
  omega
theorem opt_of {M : Nat → Nat → Bool} {n m x y : Nat} (hx : x ≤ n) (hy : y ≤ m) (h : dist M x y + rest M n m x y ≤ fewest M n m) : Opt M n m x y := by
  refine ⟨hx, hy, ?_⟩
  have a := dist_eq M x y
  have b := rest_eq M n m x y
  have c := dist_eq M n m
  have d := through_le M hx hy
  unfold fewest at h
  omega

/-- Along a diagonal the number of edits does not fall. -/
theorem dist_diag (M : Nat → Nat → Bool) (x y t : Nat) : dist M x y ≤ dist M (x + t) (y + t) := by
  induction t with
  | zero => exact Nat.le_refl _
  | succ t ih =>
    have a := dist_eq M (x + t) (y + t)
    have b := dist_eq M (x + t + 1) (y + t + 1)
    have c := L_diag M (x + t) (y + t)
    show dist M x y ≤ dist M (x + t + 1) (y + t + 1)
    omega
theorem dist_hit {M : Nat → Nat → Bool} {x y : Nat} (h : M x y = true) : dist M (x + 1) (y + 1) = dist M x y := by
  have a := dist_eq M x y
  have b := dist_eq M (x + 1) (y + 1)
  rw [L_hit h] at b
  omega
theorem dist_right (M : Nat → Nat → Bool) (x y : Nat) : dist M (x + 1) y ≤ dist M x y + 1 := by
  have a := dist_eq M x y
  have b := dist_eq M (x + 1) y
  have c := L_right M x y
  omega
theorem dist_down (M : Nat → Nat → Bool) (x y : Nat) : dist M x (y + 1) ≤ dist M x y + 1 := by
  have a := dist_eq M x y
  have b := dist_eq M x (y + 1)
  have c := L_down M x y
  omega
theorem rest_diag (M : Nat → Nat → Bool) {n m x y t : Nat} (hx : x + t ≤ n) (hy : y + t ≤ m) : rest M n m (x + t) (y + t) ≤ rest M n m x y := by
  unfold rest
  have := dist_diag (rev M n m) (n - (x + t)) (m - (y + t)) t
  rw [show n - (x + t) + t = n - x from by omega, show m - (y + t) + t = m - y from by omega] at this
  exact this
theorem rest_edge_right (M : Nat → Nat → Bool) {n m y : Nat} : rest M n m n y = m - y := by
  have := rest_eq M n m n y
  rw [S_end_left] at this
  omega
theorem rest_edge_down (M : Nat → Nat → Bool) {n m x : Nat} : rest M n m x m = n - x := by
  have := rest_eq M n m x m
  rw [S_end_right] at this
  omega

/-- Back from an optimal point: along its diagonal, over lines that both have, to one edit. -/
theorem pred (M : Nat → Nat → Bool) (n m c : Nat) : ∀ (s x y : Nat), x + y ≤ s → Opt M n m x y → dist M x y = c + 1 →
    ∃ x' y' t, Opt M n m x' y' ∧ dist M x' y' = c ∧
      ((x = x' + 1 + t ∧ y = y' + t ∧ ∀ u, u < t → M (x' + 1 + u) (y' + u) = true) ∨
       (x = x' + t ∧ y = y' + 1 + t ∧ ∀ u, u < t → M (x' + u) (y' + 1 + u) = true)) := by
  intro s
  induction s with
  | zero =>
    intro x y h _ hd
    have := dist_eq M x y
    omega
  | succ s ih =>
    intro x y hs ho hd
    have ho' := ho
    obtain ⟨hx, hy, e⟩ := ho
    have de := dist_eq M x y
    by_cases hdiag : ∃ x0 y0, x = x0 + 1 ∧ y = y0 + 1 ∧ M x0 y0 = true
    · obtain ⟨x0, y0, rfl, rfl, hM⟩ := hdiag
      have o0 : Opt M n m x0 y0 := ⟨by omega, by omega, by
        have := S_hit (n := n) (m := m) (by omega) (by omega) hM
        have := L_hit hM
        omega⟩
      obtain ⟨x', y', t, o', d', hh⟩ := ih x0 y0 (by omega) o0 (by rw [← dist_hit hM]; exact hd)
      refine ⟨x', y', t + 1, o', d', ?_⟩
      rcases hh with ⟨e1, e2, hall⟩ | ⟨e1, e2, hall⟩
      · refine .inl ⟨by omega, by omega, fun u hu => ?_⟩
        by_cases hut : u < t
        · exact hall u hut
        · obtain rfl : u = t := by omega
          rw [← e1, ← e2]; exact hM
      · refine .inr ⟨by omega, by omega, fun u hu => ?_⟩
        by_cases hut : u < t
        · exact hall u hut
        · obtain rfl : u = t := by omega
          rw [← e1, ← e2]; exact hM
    · -- no line in common: an edit leads here
      have key : (∃ x0, x = x0 + 1 ∧ L M x0 y = L M x y) ∨ (∃ y0, y = y0 + 1 ∧ L M x y0 = L M x y) := by
        match x, y with
        | 0, 0 => omega
        | x0 + 1, 0 => exact .inl ⟨x0, rfl, by rw [L_zero_right, L_zero_right]⟩
        | 0, y0 + 1 => exact .inr ⟨y0, rfl, by rw [L_zero_left, L_zero_left]⟩
        | x0 + 1, y0 + 1 =>
          have hM : ¬ M x0 y0 = true := fun h => hdiag ⟨x0, y0, rfl, rfl, h⟩
          have := L_miss hM
          by_cases hc : L M x0 (y0 + 1) = L M (x0 + 1) (y0 + 1)
          · exact .inl ⟨x0, rfl, hc⟩
          · exact .inr ⟨y0, rfl, by omega⟩
      rcases key with ⟨x0, rfl, hl⟩ | ⟨y0, rfl, hl⟩
      · have b := dist_eq M x0 y
        have st := through_le M (n := n) (m := m) (x := x0) (y := y) (by omega) (by omega)
        have sr := S_right M (n := n) (m := m) (x := x0) y (by omega)
        exact ⟨x0, y, 0, ⟨by omega, by omega, by omega⟩, by omega, .inl ⟨by omega, by omega, fun u hu => absurd hu (by omega)⟩⟩
      · have b := dist_eq M x y0
        have st := through_le M (n := n) (m := m) (x := x) (y := y0) (by omega) (by omega)
        have sr := S_down M (n := n) (m := m) (y := y0) x (by omega)
        exact ⟨x, y0, 0, ⟨by omega, by omega, by omega⟩, by omega, .inr ⟨by omega, by omega, fun u hu => absurd hu (by omega)⟩⟩

/-- On a path of the fewest edits there is a point behind each number of edits. -/
theorem opt_at (M : Nat → Nat → Bool) (n m c : Nat) (h : c ≤ fewest M n m) : ∃ x y, Opt M n m x y ∧ dist M x y = c := by
  obtain ⟨t, ht⟩ : ∃ t, fewest M n m = c + t := ⟨fewest M n m - c, by omega⟩
  induction t generalizing c with
  | zero => exact ⟨n, m, opt_end M n m, by unfold fewest at ht; omega⟩
  | succ t ih =>
    obtain ⟨x, y, o, d⟩ := ih (c + 1) (by omega) (by omega)
    obtain ⟨x', y', _, o', d', _⟩ := pred M n m c _ x y (Nat.le_refl _) o d
    exact ⟨x', y', o', d'⟩

end Go.Proofs.Qxb6600330a.Plain
