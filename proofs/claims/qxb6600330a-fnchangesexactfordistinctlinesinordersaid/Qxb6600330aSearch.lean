/-
  PLAIN MATHEMATICS, NO Go IN SIGHT: Myers' search from both ends, on diagonals.
-/
import Derived.Test.Qxb6600330aLcs
set_option linter.unusedVariables false
namespace Go.Proofs.Qxb6600330a.Plain

/-- What the search from the start may hold of the diagonal k behind c edits: -1 (not reached), or the x of a point that c edits reach; and no point of a path of the fewest edits lies further. -/
def Good (M : Nat → Nat → Bool) (n m c : Nat) (k v : Int) : Prop :=
  (v ≠ -1 → ∃ x y : Nat, v = x ∧ (x : Int) - y = k ∧ x ≤ n ∧ y ≤ m ∧ dist M x y ≤ c) ∧
  (∀ x y : Nat, Opt M n m x y → (x : Int) - y = k → dist M x y = c → v ≠ -1 ∧ (x : Int) ≤ v)

theorem dist_diagonal (M : Nat → Nat → Bool) (x y : Nat) : (x : Int) - y ≤ dist M x y ∧ (y : Int) - x ≤ dist M x y ∧ ∃ z : Int, (dist M x y : Int) = (x : Int) - y + 2 * z := by
  have a := dist_eq M x y
  have b := L_le M x y
  exact ⟨by omega, by omega, (y : Int) - L M x y, by omega⟩

/-- Outside the diagonals that c edits can come to, 'not reached' is right. -/
theorem good_out (M : Nat → Nat → Bool) (n m c : Nat) (k : Int) (h : k < -(c : Int) ∨ k < -(m : Int) ∨ (c : Int) < k ∨ (n : Int) < k) : Good M n m c k (-1) := by
  refine ⟨fun h => absurd rfl h, fun x y o e d => ?_⟩
  have a := dist_diagonal M x y
  obtain ⟨hx, hy, _⟩ := o
  omega

/-- The walk along a diagonal over lines that both have, till it can go no further. -/
def Slid (M : Nat → Nat → Bool) (n m : Nat) (k v0 v : Int) : Prop :=
  ∃ x y t : Nat, v0 = x ∧ (x : Int) - y = k ∧ v = (x + t : Nat) ∧ x + t ≤ n ∧ y + t ≤ m ∧ (∀ u, u < t → M (x + u) (y + u) = true) ∧
    ¬ (x + t < n ∧ y + t < m ∧ M (x + t) (y + t) = true)

theorem dist_slide {M : Nat → Nat → Bool} {x y t : Nat} (h : ∀ u, u < t → M (x + u) (y + u) = true) : dist M (x + t) (y + t) = dist M x y := by
  induction t with
  | zero => rfl
  | succ t ih =>
    have e : dist M (x + t + 1) (y + t + 1) = dist M (x + t) (y + t) := dist_hit (h t (by omega))
    have := ih fun u hu => h u (by omega)
    show dist M (x + t + 1) (y + t + 1) = _
    omega

theorem good_zero {M : Nat → Nat → Bool} {n m : Nat} {v : Int} (hs : Slid M n m 0 0 v) : Good M n m 0 0 v := by
  obtain ⟨x, y, t, e0, ek, ev, hx, hy, hall, hstop⟩ := hs
  obtain rfl : x = 0 := by omega
  obtain rfl : y = 0 := by omega
  refine ⟨fun _ => ⟨0 + t, 0 + t, by omega, by omega, by omega, by omega, by rw [dist_slide hall]; exact Nat.le_refl _⟩, fun x y o e d => ⟨by omega, ?_⟩⟩
  obtain rfl : x = y := by omega
  obtain ⟨ox, oy, _⟩ := o
  -- no edits: all lines on the way are the same
  have all : ∀ z, z ≤ x → dist M z z = 0 := by
    intro z hz
    have := dist_diag M z z (x - z)
    rw [show z + (x - z) = x from by omega] at this
    omega
  have hit : ∀ z, z < x → M z z = true := by
    intro z hz
    by_cases h : M z z = true
    · exact h
    · exfalso
      have a := all z (by omega)
      have b := all (z + 1) (by omega)
      have c := dist_eq M z z
      have d := dist_eq M (z + 1) (z + 1)
      have e := L_miss h
      have f := L_le M z (z + 1)
      have g := L_le M (z + 1) z
      omega
  by_cases hlt : t < x
  · exact absurd ⟨by omega, by omega, by simpa using hit t hlt⟩ hstop
  · omega

/-- The start of the walk on the diagonal k, out of what its two neighbours hold. -/
def pick0 (n : Nat) (below : Int) : Int := if below ≠ -1 ∧ below < n then below + 1 else -1
def pick (n m : Nat) (k below above : Int) : Int :=
  if above ≠ -1 ∧ above - k ≤ m ∧ pick0 n below < above then above else pick0 n below

theorem pick_cases (n m : Nat) (k below above : Int) :
    (pick n m k below above = -1) ∨ (below ≠ -1 ∧ below < n ∧ pick n m k below above = below + 1) ∨ (above ≠ -1 ∧ above - k ≤ m ∧ pick n m k below above = above) := by
  unfold pick
  by_cases h : above ≠ -1 ∧ above - k ≤ m ∧ pick0 n below < above
  · rw [if_pos h]; exact .inr (.inr ⟨h.1, h.2.1, rfl⟩)
  · rw [if_neg h]
    unfold pick0
    by_cases h' : below ≠ -1 ∧ below < n
    · rw [if_pos h']; exact .inr (.inl ⟨h'.1, h'.2, rfl⟩)
    · rw [if_neg h']; exact .inl rfl
theorem pick_below (n m : Nat) (k below above : Int) (h : below ≠ -1 ∧ below < n) (h1 : -1 ≤ below) : below + 1 ≤ pick n m k below above ∧ pick n m k below above ≠ -1 := by
  have e : pick0 n below = below + 1 := if_pos h
  unfold pick
  rw [e]
  split <;> omega
theorem pick_above (n m : Nat) (k below above : Int) (h : above ≠ -1 ∧ above - k ≤ m) (h1 : -1 ≤ above) : above ≤ pick n m k below above ∧ pick n m k below above ≠ -1 := by
  unfold pick
  by_cases hc : above ≠ -1 ∧ above - k ≤ m ∧ pick0 n below < above
  · rw [if_pos hc]; omega
  · rw [if_neg hc]
    have : ¬ pick0 n below < above := fun hl => hc ⟨h.1, h.2, hl⟩
    omega

theorem good_lo {M : Nat → Nat → Bool} {n m c : Nat} {k v : Int} (h : Good M n m c k v) : -1 ≤ v ∧ v ≤ n := by
  by_cases e : v = -1
  · omega
  · obtain ⟨x, y, ev, _, hx, _⟩ := h.1 e
    omega

/-- A walk that begins no later than an optimal point's own, and no further than needs be, comes to it. -/
theorem slid_to {M : Nat → Nat → Bool} {n m : Nat} {k v0 v : Int} (hs : Slid M n m k v0 v) {x y t : Nat} (hx : x + t ≤ n) (hy : y + t ≤ m) (hk : (x : Int) - y = k) (h0 : (x : Int) ≤ v0)
    (hall : ∀ u, u < t → M (x + u) (y + u) = true) : ((x + t : Nat) : Int) ≤ v := by
  obtain ⟨a, b, s, e0, ek, ev, ha, hb, hal, hstop⟩ := hs
  by_cases hlt : a + s < x + t
  · exfalso
    apply hstop
    refine ⟨by omega, by omega, ?_⟩
    have := hall (a + s - x) (by omega)
    rw [show x + (a + s - x) = a + s from by omega, show y + (a + s - x) = b + s from by omega] at this
    exact this
  · omega

/-- ONE ROUND OF THE SEARCH: what the diagonal k holds behind c + 1 edits. -/
theorem good_step {M : Nat → Nat → Bool} {n m c : Nat} {k below above v : Int} (hb : Good M n m c (k - 1) below) (ha : Good M n m c (k + 1) above)
    (h0 : pick n m k below above = -1 → v = -1) (h1 : pick n m k below above ≠ -1 → Slid M n m k (pick n m k below above) v) : Good M n m (c + 1) k v := by
  constructor
  · intro hv
    have hp : pick n m k below above ≠ -1 := fun h => hv (h0 h)
    obtain ⟨x, y, t, e0, ek, ev, hx, hy, hall, _⟩ := h1 hp
    refine ⟨x + t, y + t, ev, by omega, hx, hy, ?_⟩
    rw [dist_slide hall]
    rcases pick_cases n m k below above with h | ⟨h2, h3, h4⟩ | ⟨h2, h3, h4⟩
    · exact absurd h hp
    · obtain ⟨p, q, e1, e2, _, _, e5⟩ := hb.1 h2
      obtain rfl : x = p + 1 := by omega
      obtain rfl : y = q := by omega
      have := dist_right M p y
      omega
    · obtain ⟨p, q, e1, e2, _, _, e5⟩ := ha.1 h2
      obtain rfl : x = p := by omega
      obtain rfl : y = q + 1 := by omega
      have := dist_down M x q
      omega
  · intro x y o e d
    have lb := good_lo hb
    have la := good_lo ha
    obtain ⟨x', y', t, o', d', hh⟩ := pred M n m c _ x y (Nat.le_refl _) o d
    have fo := fewest_opt o
    have fo' := fewest_opt o'
    obtain ⟨ox, oy, _⟩ := o
    rcases hh with ⟨e1, e2, hall⟩ | ⟨e1, e2, hall⟩
    · obtain ⟨b1, b2⟩ := hb.2 x' y' o' (by omega) d'
      obtain ⟨p, q, f1, f2, f3, f4, f5⟩ := hb.1 b1
      have hlt : below < n := by
        by_cases hp : p = n
        · exfalso
          subst hp
          have r1 := rest_diag M (n := p) (m := m) (x := x) (y := y) (t := p - x) (by omega) (by omega)
          rw [show x + (p - x) = p from by omega, rest_edge_right] at r1
          have r2 := fewest_le M (n := p) (m := m) (x := p) (y := q) (by omega) (by omega)
          rw [rest_edge_right] at r2
          omega
        · omega
      obtain ⟨p1, p2⟩ := pick_below n m k below above ⟨b1, hlt⟩ lb.1
      have hs := h1 p2
      have := slid_to hs (x := x' + 1) (y := y') (t := t) (by omega) (by omega) (by omega) (by omega) hall
      have vv : v ≠ -1 := by omega
      exact ⟨vv, by omega⟩
    · obtain ⟨b1, b2⟩ := ha.2 x' y' o' (by omega) d'
      obtain ⟨p, q, f1, f2, f3, f4, f5⟩ := ha.1 b1
      have hlt : above - k ≤ m := by
        by_cases hp : q = m
        · exfalso
          subst hp
          have r1 := rest_diag M (n := n) (m := q) (x := x) (y := y) (t := q - y) (by omega) (by omega)
          rw [show y + (q - y) = q from by omega, rest_edge_down] at r1
          have r2 := fewest_le M (n := n) (m := q) (x := p) (y := q) (by omega) (by omega)
          rw [rest_edge_down] at r2
          omega
        · omega
      obtain ⟨p1, p2⟩ := pick_above n m k below above ⟨b1, hlt⟩ la.1
      have hs := h1 p2
      have := slid_to hs (x := x') (y := y' + 1) (t := t) (by omega) (by omega) (by omega) (by omega) hall
      have vv : v ≠ -1 := by omega
      exact ⟨vv, by omega⟩

/-! ### The search from the end is the search from the start of the table read from the end -/
def mir (n : Nat) (v : Int) : Int := if v = -1 then -1 else n - v
def GoodB (M : Nat → Nat → Bool) (n m c : Nat) (k v : Int) : Prop :=
  v ≤ n ∧ -1 ≤ v ∧ Good (rev M n m) n m c ((n : Int) - m - k) (mir n v)

theorem goodB_out (M : Nat → Nat → Bool) (n m c : Nat) (k : Int) (h : k < (n : Int) - m - c ∨ k < -(m : Int) ∨ (n : Int) - m + c < k ∨ (n : Int) < k) : GoodB M n m c k (-1) :=
  ⟨by omega, by omega, by
    have e : mir n (-1) = -1 := if_pos rfl
    rw [e]
    exact good_out _ n m c _ (by omega)⟩

/-- The walk back along a diagonal. -/
def SlidB (M : Nat → Nat → Bool) (n m : Nat) (k v0 v : Int) : Prop :=
  ∃ x y t : Nat, v0 = (x + t : Nat) ∧ (x : Int) - y = k ∧ v = x ∧ x + t ≤ n ∧ y + t ≤ m ∧ (∀ u, u < t → M (x + u) (y + u) = true) ∧
    ¬ (0 < x ∧ 0 < y ∧ M (x - 1) (y - 1) = true)

theorem slid_of_slidB {M : Nat → Nat → Bool} {n m : Nat} {k v0 v : Int} (h : SlidB M n m k v0 v) : Slid (rev M n m) n m ((n : Int) - m - k) (n - v0) (n - v) := by
  obtain ⟨x, y, t, e0, ek, ev, hx, hy, hall, hstop⟩ := h
  refine ⟨n - (x + t), m - (y + t), t, by omega, by omega, by omega, by omega, by omega, fun u hu => ?_, fun ⟨h1, h2, h3⟩ => hstop ⟨by omega, by omega, ?_⟩⟩
  · have := hall (t - 1 - u) (by omega)
    unfold rev
    rw [show n - 1 - (n - (x + t) + u) = x + (t - 1 - u) from by omega, show m - 1 - (m - (y + t) + u) = y + (t - 1 - u) from by omega]
    exact this
  · unfold rev at h3
    rw [show n - 1 - (n - (x + t) + t) = x - 1 from by omega, show m - 1 - (m - (y + t) + t) = y - 1 from by omega] at h3
    exact h3

theorem goodB_zero {M : Nat → Nat → Bool} {n m : Nat} {v : Int} (hs : SlidB M n m ((n : Int) - m) n v) : GoodB M n m 0 ((n : Int) - m) v := by
  have h := slid_of_slidB hs
  obtain ⟨x, y, t, e0, ek, ev, hx, hy, _⟩ := hs
  refine ⟨by omega, by omega, ?_⟩
  have e : mir n v = n - v := if_neg (by omega)
  rw [e]
  rw [Int.sub_self, Int.sub_self] at h
  rw [Int.sub_self]
  exact good_zero h

/-- The start of the walk back on the diagonal k. -/
def pickB0 (above : Int) : Int := if above ≠ -1 ∧ 0 < above then above - 1 else -1
def pickB (k above below : Int) : Int :=
  if below ≠ -1 ∧ 0 ≤ below - k ∧ (pickB0 above = -1 ∨ below < pickB0 above) then below else pickB0 above

theorem mir_pos {n : Nat} {v : Int} (h : v = -1) : mir n v = -1 := if_pos h
theorem mir_neg {n : Nat} {v : Int} (h : ¬ v = -1) : mir n v = n - v := if_neg h
theorem mir_pickB0 {n : Nat} {above : Int} (ha : -1 ≤ above) (ha' : above ≤ n) : pick0 n (mir n above) = mir n (pickB0 above) := by
  by_cases h1 : above = -1
  · have e1 : pickB0 above = -1 := if_neg (by omega)
    rw [e1, mir_pos h1, mir_pos rfl]
    exact if_neg (by omega)
  · rw [mir_neg h1]
    by_cases h2 : 0 < above
    · have e1 : pickB0 above = above - 1 := if_pos ⟨h1, h2⟩
      rw [e1, mir_neg (by omega)]
      have e2 : pick0 n (n - above) = n - above + 1 := if_pos ⟨by omega, by omega⟩
      rw [e2]; omega
    · have e1 : pickB0 above = -1 := if_neg (by omega)
      rw [e1, mir_pos rfl]
      exact if_neg (by omega)
theorem pickB0_bd {n : Nat} {above : Int} (ha : -1 ≤ above) (ha' : above ≤ n) : -1 ≤ pickB0 above ∧ pickB0 above ≤ n := by
  unfold pickB0
  by_cases h : above ≠ -1 ∧ 0 < above
  · rw [if_pos h]; omega
  · rw [if_neg h]; omega
theorem mir_pickB {n m : Nat} {k above below : Int} (ha : -1 ≤ above) (hb : -1 ≤ below) (ha' : above ≤ n) (hb' : below ≤ n) :
    mir n (pickB k above below) = pick n m ((n : Int) - m - k) (mir n above) (mir n below) := by
  have hz := pickB0_bd ha ha'
  unfold pick
  rw [mir_pickB0 ha ha']
  unfold pickB
  generalize pickB0 above = z at hz
  by_cases h1 : below = -1
  · rw [if_neg (fun h => h.1 h1), if_neg (fun h => h.1 (mir_pos h1))]
  · rw [mir_neg h1]
    by_cases h2 : z = -1
    · rw [mir_pos h2]
      by_cases h3 : 0 ≤ below - k
      · rw [if_pos ⟨h1, h3, .inl h2⟩, if_pos ⟨by omega, by omega, by omega⟩, mir_neg h1]
      · rw [if_neg (fun h => h3 h.2.1), if_neg (by omega), mir_pos h2]
    · rw [mir_neg h2]
      by_cases h3 : 0 ≤ below - k ∧ below < z
      · rw [if_pos ⟨h1, h3.1, .inr h3.2⟩, if_pos ⟨by omega, by omega, by omega⟩, mir_neg h1]
      · rw [if_neg (fun h => h3 ⟨h.2.1, h.2.2.resolve_left h2⟩), if_neg (by omega), mir_neg h2]

theorem goodB_step {M : Nat → Nat → Bool} {n m c : Nat} {k above below v : Int} (ha : GoodB M n m c (k + 1) above) (hb : GoodB M n m c (k - 1) below)
    (h0 : pickB k above below = -1 → v = -1) (h1 : pickB k above below ≠ -1 → SlidB M n m k (pickB k above below) v) : GoodB M n m (c + 1) k v := by
  obtain ⟨a1, a2, a3⟩ := ha
  obtain ⟨b1, b2, b3⟩ := hb
  have hm := mir_pickB (n := n) (m := m) (k := k) a2 b2 a1 b1
  have hv : v ≤ n ∧ -1 ≤ v := by
    by_cases h : pickB k above below = -1
    · have := h0 h; omega
    · obtain ⟨x, y, t, e0, ek, ev, hx, _⟩ := h1 h; omega
  refine ⟨hv.1, hv.2, ?_⟩
  have a3' : Good (rev M n m) n m c ((n : Int) - m - k - 1) (mir n above) := by
    rw [show (n : Int) - m - k - 1 = (n : Int) - m - (k + 1) from by omega]; exact a3
  have b3' : Good (rev M n m) n m c ((n : Int) - m - k + 1) (mir n below) := by
    rw [show (n : Int) - m - k + 1 = (n : Int) - m - (k - 1) from by omega]; exact b3
  refine good_step a3' b3' (fun h => ?_) (fun h => ?_)
  · rw [← hm] at h
    have : pickB k above below = -1 := by
      by_cases hp : pickB k above below = -1
      · exact hp
      · exfalso
        unfold mir at h
        rw [if_neg hp] at h
        obtain ⟨x, y, t, e0, ek, ev, hx, _⟩ := h1 hp
        omega
    rw [h0 this]; exact if_pos rfl
  · have hp : pickB k above below ≠ -1 := fun e => h (by rw [← hm, e]; exact if_pos rfl)
    have hs := h1 hp
    have hs2 := slid_of_slidB hs
    obtain ⟨x, y, t, e0, ek, ev, hx, _⟩ := hs
    rw [← hm]
    have e1 : mir n v = n - v := if_neg (by omega)
    have e2 : mir n (pickB k above below) = n - pickB k above below := if_neg hp
    rw [e1, e2]
    exact hs2

theorem goodB_reach {M : Nat → Nat → Bool} {n m c : Nat} {k v : Int} (h : GoodB M n m c k v) (hv : v ≠ -1) : ∃ x y : Nat, v = x ∧ (x : Int) - y = k ∧ x ≤ n ∧ y ≤ m ∧ rest M n m x y ≤ c := by
  obtain ⟨h1, h2, h3⟩ := h
  have e : mir n v = n - v := if_neg hv
  rw [e] at h3
  obtain ⟨x, y, e0, ek, hx, hy, hd⟩ := h3.1 (by omega)
  refine ⟨n - x, m - y, by omega, by omega, by omega, by omega, ?_⟩
  unfold rest
  rw [show n - (n - x) = x from by omega, show m - (m - y) = y from by omega]
  exact hd
theorem goodB_opt {M : Nat → Nat → Bool} {n m c : Nat} {k v : Int} (h : GoodB M n m c k v) {x y : Nat} (o : Opt M n m x y) (hk : (x : Int) - y = k) (hr : rest M n m x y = c) : v ≠ -1 ∧ v ≤ x := by
  obtain ⟨h1, h2, h3⟩ := h
  have o' := opt_rev o
  obtain ⟨ox, oy, _⟩ := o
  obtain ⟨g1, g2⟩ := h3.2 (n - x) (m - y) o' (by omega) hr
  have hv : v ≠ -1 := fun e => g1 (by rw [e]; exact if_pos rfl)
  have e : mir n v = n - v := if_neg hv
  rw [e] at g2
  exact ⟨hv, by omega⟩

/-! ### The two searches meet -/
theorem meet_fwd {M : Nat → Nat → Bool} {n m c c' : Nat} {k v e : Int} (hf : Good M n m c k v) (hv : v ≠ -1) (hb : GoodB M n m c' k e) (he : e ≠ -1) (hle : e ≤ v) :
    ∃ x y : Nat, v = x ∧ (x : Int) - y = k ∧ x ≤ n ∧ y ≤ m ∧ dist M x y ≤ c ∧ rest M n m x y ≤ c' := by
  obtain ⟨x, y, e0, ek, hx, hy, hd⟩ := hf.1 hv
  obtain ⟨p, q, f0, fk, hp, hq, hr⟩ := goodB_reach hb he
  refine ⟨x, y, e0, ek, hx, hy, hd, ?_⟩
  have := rest_diag M (n := n) (m := m) (x := p) (y := q) (t := x - p) (by omega) (by omega)
  rw [show p + (x - p) = x from by omega, show q + (x - p) = y from by omega] at this
  omega
theorem meet_bwd {M : Nat → Nat → Bool} {n m c c' : Nat} {k v s : Int} (hb : GoodB M n m c' k v) (hv : v ≠ -1) (hf : Good M n m c k s) (hs : s ≠ -1) (hle : v ≤ s) :
    ∃ x y : Nat, v = x ∧ (x : Int) - y = k ∧ x ≤ n ∧ y ≤ m ∧ dist M x y ≤ c ∧ rest M n m x y ≤ c' := by
  obtain ⟨p, q, f0, fk, hp, hq, hd⟩ := hf.1 hs
  obtain ⟨x, y, e0, ek, hx, hy, hr⟩ := goodB_reach hb hv
  refine ⟨x, y, e0, ek, hx, hy, ?_, hr⟩
  have := dist_diag M x y (p - x)
  rw [show x + (p - x) = p from by omega, show y + (p - x) = q from by omega] at this
  omega

theorem fewest_parity (M : Nat → Nat → Bool) (n m : Nat) : ∃ z : Int, (fewest M n m : Int) = (n : Int) - m + 2 * z := by
  obtain ⟨_, _, z, hz⟩ := dist_diagonal M n m
  exact ⟨z, hz⟩

/-- Where the lists differ in their first and in their last lines, one edit does not do. -/
theorem L_full (M : Nat → Nat → Bool) : ∀ n, L M n n = n → ∀ i, i < n → M i i = true := by
  intro n
  induction n with
  | zero => intro _ i hi; omega
  | succ n ih =>
    intro h i hi
    by_cases hM : M n n = true
    · rw [L_hit hM] at h
      by_cases e : i = n
      · subst e; exact hM
      · exact ih (by omega) i (by omega)
    · exfalso
      rw [L_miss hM] at h
      have a := L_le M n (n + 1)
      have b := L_le M (n + 1) n
      omega
theorem fewest_two {M : Nat → Nat → Bool} {n m : Nat} (hn : 1 ≤ n) (hm : 1 ≤ m) (h0 : ¬ M 0 0 = true) (h1 : ¬ M (n - 1) (m - 1) = true) : 2 ≤ fewest M n m := by
  obtain ⟨n', rfl⟩ : ∃ n', n = n' + 1 := ⟨n - 1, by omega⟩
  obtain ⟨m', rfl⟩ : ∃ m', m = m' + 1 := ⟨m - 1, by omega⟩
  simp only [Nat.add_sub_cancel] at h1
  have e := dist_eq M (n' + 1) (m' + 1)
  unfold fewest
  have l := L_miss h1
  have a := L_le M n' (m' + 1)
  have b := L_le M (n' + 1) m'
  by_cases hlt : dist M (n' + 1) (m' + 1) < 2
  · exfalso
    by_cases c1 : L M n' (m' + 1) = L M (n' + 1) (m' + 1)
    · obtain rfl : n' = m' + 1 := by omega
      exact h0 (L_full M (m' + 1) (by omega) 0 (by omega))
    · obtain rfl : m' = n' + 1 := by omega
      exact h0 (L_full M (n' + 1) (by omega) 0 (by omega))
  · omega

end Go.Proofs.Qxb6600330a.Plain
