/-
  PLAIN MATHEMATICS, NO Go IN SIGHT: the furthest point, where the two searches have not met.
-/
import Derived.Test.Qxb6600330aRounds
set_option linter.unusedVariables false
namespace Go.Proofs.Qxb6600330a.Plain

structure FarF (M : Nat → Nat → Bool) (n m mc : Nat) (X Y B K : Int) : Prop where
  par : ∃ z : Int, K = mc + 2 * z
  lo : -(mc : Int) ≤ K ∧ -(m : Int) ≤ K
  bd : -1 ≤ B ∧ B ≤ (n : Int) + m
  cand : B = -1 ∨ ∃ px py : Nat, X = px ∧ Y = py ∧ px ≤ n ∧ py ≤ m ∧ dist M px py ≤ mc ∧ B = (px : Int) + py
  all : ∀ x y, Opt M n m x y → dist M x y = mc → (x : Int) - y < K → (mc : Int) ≤ B

structure FarB (M : Nat → Nat → Bool) (n m mc : Nat) (X Y B K : Int) : Prop where
  par : ∃ z : Int, K = (n : Int) - m + mc + 2 * z
  lo : (n : Int) - m - mc ≤ K ∧ -(m : Int) ≤ K
  bd : 1 ≤ B ∧ B ≤ (n : Int) + m
  cand : ∃ px py : Nat, X = px ∧ Y = py ∧ px ≤ n ∧ py ≤ m ∧ ((dist M px py ≤ mc ∧ 1 ≤ px + py) ∨ (rest M n m px py ≤ mc ∧ px + py < n + m))

section
variable {M : Nat → Nat → Bool} {n m mc : Nat} {X Y B K v : Int}

theorem farF_start {lo : Int} (hlo : -(mc : Int) ≤ lo ∧ -(m : Int) ≤ lo) (hz : ∃ z : Int, lo = 0 - mc + 2 * z) (hl : lo = 0 - mc ∨ lo ≤ -(m : Int) + 1) : FarF M n m mc X Y (-1) lo := by
  obtain ⟨z, hz⟩ := hz
  refine ⟨⟨z - mc, by omega⟩, hlo, by omega, .inl rfl, fun x y o d hlt => ?_⟩
  obtain ⟨h1, h2, q, hq⟩ := dist_diagonal M x y
  obtain ⟨ox, oy, _⟩ := o
  exfalso; omega
theorem farF_take (h : FarF M n m mc X Y B K) (hg : Good M n m mc K v) (hv : v ≠ -1) (hb : B < 2 * v - K) : FarF M n m mc v (v - K) (2 * v - K) (K + 2) := by
  obtain ⟨z, hz⟩ := h.par
  obtain ⟨x, y, e1, e2, e3, e4, e5⟩ := hg.1 hv
  have hbd := h.bd
  have hlo := h.lo
  refine ⟨⟨z + 1, by omega⟩, by omega, by omega, .inr ⟨x, y, e1, by omega, e3, e4, e5, by omega⟩, fun x' y' o d hlt => ?_⟩
  by_cases e : (x' : Int) - y' = K
  · have := hg.2 x' y' o e d
    have hd := dist_eq M x' y'
    have hl := L_le M x' y'
    omega
  · obtain ⟨h1, h2, q, hq⟩ := dist_diagonal M x' y'
    have := h.all x' y' o d (by omega)
    omega
theorem farF_skip (h : FarF M n m mc X Y B K) (hg : Good M n m mc K v) (hb : v = -1 ∨ 2 * v - K ≤ B) : FarF M n m mc X Y B (K + 2) := by
  obtain ⟨z, hz⟩ := h.par
  have hlo := h.lo
  refine ⟨⟨z + 1, by omega⟩, by omega, h.bd, h.cand, fun x' y' o d hlt => ?_⟩
  by_cases e : (x' : Int) - y' = K
  · have := hg.2 x' y' o e d
    have hd := dist_eq M x' y'
    have hl := L_le M x' y'
    omega
  · obtain ⟨h1, h2, q, hq⟩ := dist_diagonal M x' y'
    exact h.all x' y' o d (by omega)
theorem farF_done (h : FarF M n m mc X Y B K) (hk : (mc : Int) < K ∨ (n : Int) < K) (hmc : 1 ≤ mc) (hf : 2 * mc + 1 ≤ fewest M n m) {lo : Int} (hlo : (n : Int) - m - mc ≤ lo ∧ -(m : Int) ≤ lo) (hz : ∃ z : Int, lo = (n : Int) - m - mc + 2 * z) : FarB M n m mc X Y B lo := by
  obtain ⟨x, y, o, d⟩ := opt_at M n m mc (by omega)
  have hd := dist_diagonal M x y
  have o' := o
  obtain ⟨ox, oy, _⟩ := o'
  have hB := h.all x y o d (by omega)
  obtain ⟨z, hz⟩ := hz
  have hbd := h.bd
  refine ⟨⟨z - mc, by omega⟩, hlo, by omega, ?_⟩
  rcases h.cand with e | ⟨px, py, e1, e2, e3, e4, e5, e6⟩
  · omega
  · exact ⟨px, py, e1, e2, e3, e4, .inl ⟨e5, by omega⟩⟩
theorem farB_take (h : FarB M n m mc X Y B K) (hg : GoodB M n m mc K v) (hv : v ≠ -1) (hb : B < (n : Int) + m - (2 * v - K)) : FarB M n m mc v (v - K) ((n : Int) + m - (2 * v - K)) (K + 2) := by
  obtain ⟨z, hz⟩ := h.par
  obtain ⟨x, y, e1, e2, e3, e4, e5⟩ := goodB_reach hg hv
  have hbd := h.bd
  have hlo := h.lo
  exact ⟨⟨z + 1, by omega⟩, by omega, by omega, x, y, e1, by omega, e3, e4, .inr ⟨e5, by omega⟩⟩
theorem farB_skip (h : FarB M n m mc X Y B K) : FarB M n m mc X Y B (K + 2) := by
  obtain ⟨z, hz⟩ := h.par
  have hlo := h.lo
  exact ⟨⟨z + 1, by omega⟩, by omega, h.bd, h.cand⟩
theorem farB_done (h : FarB M n m mc X Y B K) (hf : 2 * mc + 1 ≤ fewest M n m) : ∃ px py : Nat, X = px ∧ Y = py ∧ Inside M n m mc px py := by
  obtain ⟨px, py, e1, e2, e3, e4, e5⟩ := h.cand
  refine ⟨px, py, e1, e2, e3, e4, ?_, ?_, fun h => by omega⟩
  · rintro ⟨rfl, rfl⟩
    rcases e5 with ⟨_, h⟩ | ⟨h, _⟩
    · omega
    · have : rest M n m 0 0 = fewest M n m := by
        have a := rest_eq M n m 0 0
        have b := S_zero M n m
        have c := dist_eq M n m
        unfold fewest
        omega
      omega
  · rintro ⟨rfl, rfl⟩
    rcases e5 with ⟨h, _⟩ | ⟨_, h⟩
    · unfold fewest at hf; omega
    · omega
theorem fok_at {F : Nat → Int} (hF : FOk M n m mc mc F) (hp : ∃ z : Int, K = mc + 2 * z) (hlo : -(mc : Int) ≤ K ∧ -(m : Int) ≤ K) (hk : K ≤ mc ∧ K ≤ n) : Good M n m mc K (F (K + mc + 1).toNat) := by
  obtain ⟨z, hz⟩ := hp
  exact hF K ⟨by omega, z, by omega⟩
theorem bok_at {G : Nat → Int} (hG : BOk M n m mc mc G) (hp : ∃ z : Int, K = (n : Int) - m + mc + 2 * z) (hlo : (n : Int) - m - mc ≤ K ∧ -(m : Int) ≤ K) (hk : K ≤ (n : Int) - m + mc ∧ K ≤ n) : GoodB M n m mc K (G (K - ((n : Int) - m) + mc + 1).toNat) := by
  exact hG K ⟨by omega, hp⟩
end
end Go.Proofs.Qxb6600330a.Plain
