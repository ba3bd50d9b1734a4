/-
  PLAIN MATHEMATICS, NO Go IN SIGHT: the rounds of the search: what the two tables hold.
-/
import Derived.Test.Qxb6600330aSearch
set_option linter.unusedVariables false
namespace Go.Proofs.Qxb6600330a

def upd (F : Nat → Int) (i : Nat) (v : Int) : Nat → Int := fun j => if j = i then v else F j
theorem upd_at (F : Nat → Int) (i : Nat) (v : Int) : upd F i v i = v := if_pos rfl
theorem upd_ne (F : Nat → Int) {i j : Nat} (v : Int) (h : j ≠ i) : upd F i v j = F j := if_neg h

/-- The table of equal lines. -/
def tab (A B : Nat → Int) : Nat → Nat → Bool := fun i j => decide (A i = B j)
theorem tab_true {A B : Nat → Int} {i j : Nat} : tab A B i j = true ↔ A i = B j := by simp [tab]

/-- What 'at' answers. -/
def atv (F : Nat → Int) (n m mc : Nat) (ce k cost : Int) : Int :=
  if ce - cost ≤ k ∧ -(m : Int) ≤ k ∧ k ≤ ce + cost ∧ k ≤ n then F (k - ce + mc + 1).toNat else -1

namespace Plain

/-- The diagonals that c edits from the diagonal ce can come to. -/
def InR (n m c : Nat) (ce k : Int) : Prop := (ce - c ≤ k ∧ -(m : Int) ≤ k ∧ k ≤ ce + c ∧ k ≤ n) ∧ ∃ z : Int, k = ce + c + 2 * z
def FOk (M : Nat → Nat → Bool) (n m mc c : Nat) (F : Nat → Int) : Prop := ∀ k : Int, InR n m c 0 k → Good M n m c k (F (k + mc + 1).toNat)
def BOk (M : Nat → Nat → Bool) (n m mc c : Nat) (G : Nat → Int) : Prop := ∀ k : Int, InR n m c ((n : Int) - m) k → GoodB M n m c k (G (k - ((n : Int) - m) + mc + 1).toNat)

theorem at_good {M : Nat → Nat → Bool} {n m mc c : Nat} {F : Nat → Int} (h : FOk M n m mc c F) (k : Int) (hp : ∃ z : Int, k = c + 2 * z) : Good M n m c k (atv F n m mc 0 k c) := by
  unfold atv
  by_cases hr : (0 : Int) - c ≤ k ∧ -(m : Int) ≤ k ∧ k ≤ 0 + c ∧ k ≤ n
  · rw [if_pos hr, show k - 0 + (mc : Int) + 1 = k + mc + 1 from by omega]
    obtain ⟨z, hz⟩ := hp
    exact h k ⟨hr, z, by omega⟩
  · rw [if_neg hr]
    exact good_out M n m c k (by omega)
theorem at_goodB {M : Nat → Nat → Bool} {n m mc c : Nat} {G : Nat → Int} (h : BOk M n m mc c G) (k : Int) (hp : ∃ z : Int, k = (n : Int) - m + c + 2 * z) : GoodB M n m c k (atv G n m mc ((n : Int) - m) k c) := by
  unfold atv
  by_cases hr : (n : Int) - m - c ≤ k ∧ -(m : Int) ≤ k ∧ k ≤ (n : Int) - m + c ∧ k ≤ n
  · rw [if_pos hr]
    exact h k ⟨hr, hp⟩
  · rw [if_neg hr]
    exact goodB_out M n m c k (by omega)
theorem at_none (F : Nat → Int) (n m mc : Nat) (ce k : Int) : atv F n m mc ce k (((0 : Nat) : Int) - 1) = -1 := if_neg (by omega)

/-- What holds in the search from the start, at cost c, ahead of the diagonal k. -/
structure FInv (M : Nat → Nat → Bool) (n m mc c : Nat) (F G : Nat → Int) (k : Int) : Prop where
  par : ∃ z : Int, k = c + 2 * z
  lo : -(c : Int) ≤ k ∧ -(m : Int) ≤ k
  cur : ∀ k', InR n m c 0 k' → k' < k → Good M n m c k' (F (k' + mc + 1).toNat)
  prev : 1 ≤ c → FOk M n m mc (c - 1) F
  bprev : 1 ≤ c → BOk M n m mc (c - 1) G
  few : 2 * c ≤ fewest M n m + 1
  none : ∀ x y, Opt M n m x y → dist M x y = c → fewest M n m + 1 = 2 * c → (x : Int) - y < k → False

/-- What holds in the search from the end. -/
structure BInv (M : Nat → Nat → Bool) (n m mc c : Nat) (F G : Nat → Int) (k : Int) : Prop where
  par : ∃ z : Int, k = (n : Int) - m + c + 2 * z
  lo : (n : Int) - m - c ≤ k ∧ -(m : Int) ≤ k
  cur : ∀ k', InR n m c ((n : Int) - m) k' → k' < k → GoodB M n m c k' (G (k' - ((n : Int) - m) + mc + 1).toNat)
  prev : 1 ≤ c → BOk M n m mc (c - 1) G
  fcur : FOk M n m mc c F
  few : 2 * c ≤ fewest M n m
  none : ∀ x y, Opt M n m x y → dist M x y = c → fewest M n m = 2 * c → (x : Int) - y < k → False

section
variable {M : Nat → Nat → Bool} {n m mc c : Nat} {F G : Nat → Int} {k : Int}

theorem f_at (h : FInv M n m mc c F G k) (k' : Int) (hp : ∃ z : Int, k' = k + 1 + 2 * z) (hc : 1 ≤ c) : Good M n m (c - 1) k' (atv F n m mc 0 k' ((c : Int) - 1)) := by
  have := at_good (h.prev hc) k' (by
    obtain ⟨z, hz⟩ := hp
    obtain ⟨y, hy⟩ := h.par
    exact ⟨z + y + 1, by omega⟩)
  rw [show (((c - 1 : Nat)) : Int) = (c : Int) - 1 from by omega] at this
  exact this
theorem f_at_bd (h : FInv M n m mc c F G k) (k' : Int) (hp : ∃ z : Int, k' = k + 1 + 2 * z) : -1 ≤ atv F n m mc 0 k' ((c : Int) - 1) ∧ atv F n m mc 0 k' ((c : Int) - 1) ≤ n := by
  by_cases hc : 1 ≤ c
  · exact good_lo (f_at h k' hp hc)
  · obtain rfl : c = 0 := by omega
    rw [at_none]; omega
theorem f_end (h : FInv M n m mc c F G k) (hodd : ((n : Int) - m).tmod 2 ≠ 0) (hc : 1 ≤ c) : GoodB M n m (c - 1) k (atv G n m mc ((n : Int) - m) k ((c : Int) - 1)) := by
  have := at_goodB (h.bprev hc) k (by
    obtain ⟨y, hy⟩ := h.par
    have := Int.emod_two_eq ((n : Int) - m)
    have ht := Int.tmod_add_mul_tdiv ((n : Int) - m) 2
    have hl : ((n : Int) - m).tmod 2 = 1 ∨ ((n : Int) - m).tmod 2 = -1 := by
      have h1 := Int.tmod_lt_of_pos ((n : Int) - m) (show (0 : Int) < 2 by omega)
      have h2 := Int.lt_tmod_of_pos ((n : Int) - m) (show (0 : Int) < 2 by omega)
      omega
    rcases hl with hl | hl
    · exact ⟨y - ((n : Int) - m).tdiv 2, by omega⟩
    · exact ⟨y - ((n : Int) - m).tdiv 2 + 1, by omega⟩)
  rw [show (((c - 1 : Nat)) : Int) = (c : Int) - 1 from by omega] at this
  exact this
theorem f_end_bd (h : FInv M n m mc c F G k) (hodd : ((n : Int) - m).tmod 2 ≠ 0) : -1 ≤ atv G n m mc ((n : Int) - m) k ((c : Int) - 1) ∧ atv G n m mc ((n : Int) - m) k ((c : Int) - 1) ≤ n := by
  by_cases hc : 1 ≤ c
  · have := f_end h hodd hc
    exact ⟨this.2.1, this.1⟩
  · obtain rfl : c = 0 := by omega
    rw [at_none]; omega

/-- The x from which the walk along the diagonal k starts. -/
def startF (n m mc c : Nat) (F : Nat → Int) (k : Int) : Int :=
  if c = 0 then 0 else pick n m k (atv F n m mc 0 (k - 1) ((c : Int) - 1)) (atv F n m mc 0 (k + 1) ((c : Int) - 1))

theorem f_good (h : FInv M n m mc c F G k) (hk : k ≤ c ∧ k ≤ n) {v : Int} (h0 : startF n m mc c F k = -1 → v = -1) (h1 : startF n m mc c F k ≠ -1 → Slid M n m k (startF n m mc c F k) v) : Good M n m c k v := by
  by_cases hc : c = 0
  · subst hc
    have e : startF n m mc 0 F k = 0 := if_pos rfl
    rw [e] at h0 h1
    have hk0 : k = 0 := by have := h.lo; omega
    subst hk0
    exact good_zero (h1 (by omega))
  · obtain ⟨c', rfl⟩ : ∃ c', c = c' + 1 := ⟨c - 1, by omega⟩
    have e : startF n m mc (c' + 1) F k = _ := if_neg hc
    rw [e] at h0 h1
    have ha := f_at h (k - 1) ⟨-1, by omega⟩ (by omega)
    have hb := f_at h (k + 1) ⟨0, by omega⟩ (by omega)
    rw [Nat.add_sub_cancel] at ha hb
    exact good_step ha hb h0 h1
theorem f_start (h : FInv M n m mc c F G k) (hk : k ≤ c ∧ k ≤ n) (hs : startF n m mc c F k ≠ -1) : ∃ X Y : Nat, startF n m mc c F k = X ∧ (X : Int) - Y = k ∧ X ≤ n ∧ Y ≤ m := by
  by_cases hc : c = 0
  · subst hc
    have e : startF n m mc 0 F k = 0 := if_pos rfl
    exact ⟨0, 0, by rw [e]; rfl, by have := h.lo; omega, by omega, by omega⟩
  · have e : startF n m mc c F k = _ := if_neg hc
    rw [e] at hs ⊢
    have ha := f_at h (k - 1) ⟨-1, by omega⟩ (by omega)
    have hb := f_at h (k + 1) ⟨0, by omega⟩ (by omega)
    rcases pick_cases n m k (atv F n m mc 0 (k - 1) ((c : Int) - 1)) (atv F n m mc 0 (k + 1) ((c : Int) - 1)) with h1 | ⟨h1, h2, h3⟩ | ⟨h1, h2, h3⟩
    · exact absurd h1 hs
    · obtain ⟨x, y, e1, e2, e3, e4, _⟩ := ha.1 h1
      exact ⟨x + 1, y, by omega, by omega, by omega, by omega⟩
    · obtain ⟨x, y, e1, e2, e3, e4, _⟩ := hb.1 h1
      exact ⟨x, y + 1, by omega, by omega, by omega, by omega⟩

/-- Behind the store, if the searches have not met on this diagonal. -/
theorem f_next (h : FInv M n m mc c F G k) (hk : k ≤ c ∧ k ≤ n) (hcm : c ≤ mc) {v : Int} (hg : Good M n m c k v)
    (hno : ((n : Int) - m).tmod 2 ≠ 0 → v ≠ -1 → atv G n m mc ((n : Int) - m) k ((c : Int) - 1) ≠ -1 → v < atv G n m mc ((n : Int) - m) k ((c : Int) - 1)) :
    FInv M n m mc c (upd F (k + mc + 1).toNat v) G (k + 2) := by
  obtain ⟨z, hz⟩ := h.par
  have hlo := h.lo
  refine ⟨⟨z + 1, by omega⟩, by omega, ?_, ?_, h.bprev, h.few, ?_⟩
  · intro k' hr hlt
    obtain ⟨hr1, y, hy⟩ := hr
    by_cases e : k' = k
    · subst e
      rw [upd_at]; exact hg
    · rw [upd_ne F v (by omega)]
      exact h.cur k' ⟨hr1, y, hy⟩ (by omega)
  · intro hc k' hr
    obtain ⟨hr1, y, hy⟩ := hr
    rw [upd_ne F v (by omega)]
    exact h.prev hc k' ⟨hr1, y, hy⟩
  · intro x y o hd hf hlt
    have hdd := dist_diagonal M x y
    obtain ⟨_, _, y', hy'⟩ := hdd
    by_cases e : (x : Int) - y = k
    · have hc : 1 ≤ c := by omega
      have hodd : ((n : Int) - m).tmod 2 ≠ 0 := by
        intro h0
        obtain ⟨q, hq⟩ := fewest_parity M n m
        have ht := Int.tmod_add_mul_tdiv ((n : Int) - m) 2
        omega
      have fo := fewest_opt o
      have he := f_end h hodd hc
      have := goodB_opt he o e (by omega)
      have := hg.2 x y o e hd
      have := hno hodd (by omega) (by omega)
      omega
    · exact h.none x y o hd hf (by omega)

/-- The search from the start, at this cost, is through. -/
theorem f_done (h : FInv M n m mc c F G k) (hk : (c : Int) < k ∨ (n : Int) < k) : FOk M n m mc c F ∧ 2 * c ≤ fewest M n m ∧ (((n : Int) - m).tmod 2 ≠ 0 → 2 * c + 1 ≤ fewest M n m) := by
  have hne : fewest M n m + 1 ≠ 2 * c := by
    intro hf
    obtain ⟨x, y, o, d⟩ := opt_at M n m c (by omega)
    have hd := dist_diagonal M x y
    have o' := o
    obtain ⟨ox, oy, _⟩ := o'
    exact h.none x y o d hf (by omega)
  have hfew := h.few
  obtain ⟨q, hq⟩ := fewest_parity M n m
  refine ⟨fun k' hr => h.cur k' hr (by have := hr.1; omega), by omega, fun hodd => ?_⟩
  have ht := Int.tmod_add_mul_tdiv ((n : Int) - m) 2
  by_cases e : fewest M n m = 2 * c
  · exfalso
    apply hodd
    have h1 := Int.tmod_lt_of_pos ((n : Int) - m) (show (0 : Int) < 2 by omega)
    have h2 := Int.lt_tmod_of_pos ((n : Int) - m) (show (0 : Int) < 2 by omega)
    omega
  · omega

/-- A point that split may answer. -/
def Inside (M : Nat → Nat → Bool) (n m mc : Nat) (X Y : Nat) : Prop :=
  X ≤ n ∧ Y ≤ m ∧ ¬ (X = 0 ∧ Y = 0) ∧ ¬ (X = n ∧ Y = m) ∧ (fewest M n m ≤ 2 * mc → Opt M n m X Y)

theorem dist_start (M : Nat → Nat → Bool) : dist M 0 0 = 0 := rfl
theorem rest_end (M : Nat → Nat → Bool) (n m : Nat) : rest M n m n m = 0 := by
  have := rest_edge_right M (n := n) (m := m) (y := m)
  omega

theorem f_meet (h : FInv M n m mc c F G k) (h2 : 2 ≤ fewest M n m) {v : Int} (hg : Good M n m c k v) (hodd : ((n : Int) - m).tmod 2 ≠ 0) (hv : v ≠ -1) (he : atv G n m mc ((n : Int) - m) k ((c : Int) - 1) ≠ -1)
    (hle : atv G n m mc ((n : Int) - m) k ((c : Int) - 1) ≤ v) : ∃ X Y : Nat, v = X ∧ (X : Int) - Y = k ∧ Inside M n m mc X Y := by
  have hc : 1 ≤ c := by
    by_cases e : 1 ≤ c
    · exact e
    · obtain rfl : c = 0 := by omega
      exact absurd (at_none _ _ _ _ _ _) he
  obtain ⟨x, y, e1, e2, e3, e4, e5, e6⟩ := meet_fwd hg hv (f_end h hodd hc) he hle
  have hfew := h.few
  have o : Opt M n m x y := opt_of e3 e4 (by omega)
  have fo := fewest_opt o
  refine ⟨x, y, e1, e2, e3, e4, ?_, ?_, fun _ => o⟩
  · rintro ⟨rfl, rfl⟩
    have := dist_start M
    omega
  · rintro ⟨rfl, rfl⟩
    have := rest_end M x y
    omega

/-! ### The search from the end -/
theorem b_at (h : BInv M n m mc c F G k) (k' : Int) (hp : ∃ z : Int, k' = k + 1 + 2 * z) (hc : 1 ≤ c) : GoodB M n m (c - 1) k' (atv G n m mc ((n : Int) - m) k' ((c : Int) - 1)) := by
  have := at_goodB (h.prev hc) k' (by
    obtain ⟨z, hz⟩ := hp
    obtain ⟨y, hy⟩ := h.par
    exact ⟨z + y + 1, by omega⟩)
  rw [show (((c - 1 : Nat)) : Int) = (c : Int) - 1 from by omega] at this
  exact this
theorem b_at_bd (h : BInv M n m mc c F G k) (k' : Int) (hp : ∃ z : Int, k' = k + 1 + 2 * z) : -1 ≤ atv G n m mc ((n : Int) - m) k' ((c : Int) - 1) ∧ atv G n m mc ((n : Int) - m) k' ((c : Int) - 1) ≤ n := by
  by_cases hc : 1 ≤ c
  · have := b_at h k' hp hc
    exact ⟨this.2.1, this.1⟩
  · obtain rfl : c = 0 := by omega
    rw [at_none]; omega
theorem b_start (h : BInv M n m mc c F G k) (heven : ((n : Int) - m).tmod 2 = 0) : Good M n m c k (atv F n m mc 0 k (c : Int)) := by
  refine at_good h.fcur k ?_
  obtain ⟨y, hy⟩ := h.par
  have ht := Int.tmod_add_mul_tdiv ((n : Int) - m) 2
  exact ⟨y + ((n : Int) - m).tdiv 2, by omega⟩

/-- The x from which the walk back along the diagonal k starts. -/
def startB (n m mc c : Nat) (G : Nat → Int) (k : Int) : Int :=
  if c = 0 then (n : Int) else pickB k (atv G n m mc ((n : Int) - m) (k + 1) ((c : Int) - 1)) (atv G n m mc ((n : Int) - m) (k - 1) ((c : Int) - 1))

theorem b_good (h : BInv M n m mc c F G k) (hk : k ≤ (n : Int) - m + c ∧ k ≤ n) {v : Int} (h0 : startB n m mc c G k = -1 → v = -1) (h1 : startB n m mc c G k ≠ -1 → SlidB M n m k (startB n m mc c G k) v) : GoodB M n m c k v := by
  by_cases hc : c = 0
  · subst hc
    have e : startB n m mc 0 G k = n := if_pos rfl
    rw [e] at h0 h1
    have hk0 : k = (n : Int) - m := by have := h.lo; omega
    subst hk0
    exact goodB_zero (h1 (by omega))
  · obtain ⟨c', rfl⟩ : ∃ c', c = c' + 1 := ⟨c - 1, by omega⟩
    have e : startB n m mc (c' + 1) G k = _ := if_neg hc
    rw [e] at h0 h1
    have ha := b_at h (k + 1) ⟨0, by omega⟩ (by omega)
    have hb := b_at h (k - 1) ⟨-1, by omega⟩ (by omega)
    rw [Nat.add_sub_cancel] at ha hb
    exact goodB_step ha hb h0 h1
theorem pickB_cases (k above below : Int) :
    (pickB k above below = -1) ∨ (above ≠ -1 ∧ 0 < above ∧ pickB k above below = above - 1) ∨ (below ≠ -1 ∧ 0 ≤ below - k ∧ pickB k above below = below) := by
  unfold pickB
  by_cases h : below ≠ -1 ∧ 0 ≤ below - k ∧ (pickB0 above = -1 ∨ below < pickB0 above)
  · rw [if_pos h]; exact .inr (.inr ⟨h.1, h.2.1, rfl⟩)
  · rw [if_neg h]
    unfold pickB0
    by_cases h' : above ≠ -1 ∧ 0 < above
    · rw [if_pos h']; exact .inr (.inl ⟨h'.1, h'.2, rfl⟩)
    · rw [if_neg h']; exact .inl rfl
theorem b_begin (h : BInv M n m mc c F G k) (hk : k ≤ (n : Int) - m + c ∧ k ≤ n) (hs : startB n m mc c G k ≠ -1) : ∃ X Y : Nat, startB n m mc c G k = X ∧ (X : Int) - Y = k ∧ X ≤ n ∧ Y ≤ m := by
  by_cases hc : c = 0
  · subst hc
    have e : startB n m mc 0 G k = n := if_pos rfl
    exact ⟨n, m, by rw [e], by have := h.lo; omega, by omega, by omega⟩
  · have e : startB n m mc c G k = _ := if_neg hc
    rw [e] at hs ⊢
    have ha := b_at h (k + 1) ⟨0, by omega⟩ (by omega)
    have hb := b_at h (k - 1) ⟨-1, by omega⟩ (by omega)
    rcases pickB_cases k (atv G n m mc ((n : Int) - m) (k + 1) ((c : Int) - 1)) (atv G n m mc ((n : Int) - m) (k - 1) ((c : Int) - 1)) with h1 | ⟨h1, h2, h3⟩ | ⟨h1, h2, h3⟩
    · exact absurd h1 hs
    · obtain ⟨x, y, e1, e2, e3, e4, _⟩ := goodB_reach ha h1
      exact ⟨x - 1, y, by omega, by omega, by omega, by omega⟩
    · obtain ⟨x, y, e1, e2, e3, e4, _⟩ := goodB_reach hb h1
      exact ⟨x, y - 1, by omega, by omega, by omega, by omega⟩

theorem b_next (h : BInv M n m mc c F G k) (hk : k ≤ (n : Int) - m + c ∧ k ≤ n) (hcm : c ≤ mc) {v : Int} (hg : GoodB M n m c k v)
    (hno : ((n : Int) - m).tmod 2 = 0 → v ≠ -1 → atv F n m mc 0 k (c : Int) ≠ -1 → atv F n m mc 0 k (c : Int) < v) :
    BInv M n m mc c F (upd G (k - ((n : Int) - m) + mc + 1).toNat v) (k + 2) := by
  obtain ⟨z, hz⟩ := h.par
  have hlo := h.lo
  refine ⟨⟨z + 1, by omega⟩, by omega, ?_, ?_, h.fcur, h.few, ?_⟩
  · intro k' hr hlt
    obtain ⟨hr1, y, hy⟩ := hr
    by_cases e : k' = k
    · subst e
      rw [upd_at]; exact hg
    · rw [upd_ne G v (by omega)]
      exact h.cur k' ⟨hr1, y, hy⟩ (by omega)
  · intro hc k' hr
    obtain ⟨hr1, y, hy⟩ := hr
    rw [upd_ne G v (by omega)]
    exact h.prev hc k' ⟨hr1, y, hy⟩
  · intro x y o hd hf hlt
    have hdd := dist_diagonal M x y
    obtain ⟨_, _, y', hy'⟩ := hdd
    have heven : ((n : Int) - m).tmod 2 = 0 := by
      obtain ⟨q, hq⟩ := fewest_parity M n m
      have ht := Int.tmod_add_mul_tdiv ((n : Int) - m) 2
      have h1 := Int.tmod_lt_of_pos ((n : Int) - m) (show (0 : Int) < 2 by omega)
      have h2 := Int.lt_tmod_of_pos ((n : Int) - m) (show (0 : Int) < 2 by omega)
      omega
    have ht := Int.tmod_add_mul_tdiv ((n : Int) - m) 2
    by_cases e : (x : Int) - y = k
    · have fo := fewest_opt o
      have he := b_start h heven
      have := goodB_opt hg o e (by omega)
      have := he.2 x y o e hd
      have := hno heven (by omega) (by omega)
      omega
    · exact h.none x y o hd hf (by omega)

theorem b_done (h : BInv M n m mc c F G k) (hk : (n : Int) - m + c < k ∨ (n : Int) < k) (hfew : ((n : Int) - m).tmod 2 ≠ 0 → 2 * c + 1 ≤ fewest M n m) : BOk M n m mc c G ∧ 2 * (c + 1) ≤ fewest M n m + 1 := by
  refine ⟨fun k' hr => h.cur k' hr (by have := hr.1; omega), ?_⟩
  by_cases heven : ((n : Int) - m).tmod 2 = 0
  · have hne : fewest M n m ≠ 2 * c := by
      intro hf
      obtain ⟨x, y, o, d⟩ := opt_at M n m c (by omega)
      have fo := fewest_opt o
      have o' := opt_rev o
      have hd := dist_diagonal (rev M n m) (n - x) (m - y)
      obtain ⟨ox, oy, _⟩ := o
      have hr : rest M n m x y = c := by omega
      unfold rest at hr
      rw [hr] at hd
      refine h.none x y ⟨ox, oy, by assumption⟩ d hf (by omega)
    have := h.few
    omega
  · have := hfew heven
    omega

theorem b_meet (h : BInv M n m mc c F G k) (h2 : 2 ≤ fewest M n m) {v : Int} (hg : GoodB M n m c k v) (heven : ((n : Int) - m).tmod 2 = 0) (hv : v ≠ -1) (he : atv F n m mc 0 k (c : Int) ≠ -1)
    (hle : v ≤ atv F n m mc 0 k (c : Int)) : ∃ X Y : Nat, v = X ∧ (X : Int) - Y = k ∧ Inside M n m mc X Y := by
  obtain ⟨x, y, e1, e2, e3, e4, e5, e6⟩ := meet_bwd hg hv (b_start h heven) he hle
  have hfew := h.few
  have o : Opt M n m x y := opt_of e3 e4 (by omega)
  have fo := fewest_opt o
  refine ⟨x, y, e1, e2, e3, e4, ?_, ?_, fun _ => o⟩
  · rintro ⟨rfl, rfl⟩
    have := dist_start M
    omega
  · rintro ⟨rfl, rfl⟩
    have := rest_end M x y
    omega

/-- A round begins. -/
theorem f_begin {lo : Int} (hp : 1 ≤ c → FOk M n m mc (c - 1) F) (hb : 1 ≤ c → BOk M n m mc (c - 1) G) (hf : 2 * c ≤ fewest M n m + 1) (hlo : -(c : Int) ≤ lo ∧ -(m : Int) ≤ lo) (hz : ∃ z : Int, lo = 0 - c + 2 * z) (hl : lo = 0 - c ∨ lo ≤ -(m : Int) + 1) : FInv M n m mc c F G lo := by
  obtain ⟨z, hz⟩ := hz
  refine ⟨⟨z - c, by omega⟩, hlo, ?_, hp, hb, hf, ?_⟩
  · intro k' hr hlt
    obtain ⟨hr1, y, hy⟩ := hr
    exfalso; omega
  · intro x y o d hf' hlt
    have hd := dist_diagonal M x y
    obtain ⟨h1, h2, q, hq⟩ := hd
    obtain ⟨ox, oy, _⟩ := o
    omega
theorem b_enter {lo : Int} (hp : 1 ≤ c → BOk M n m mc (c - 1) G) (hfo : FOk M n m mc c F) (hf : 2 * c ≤ fewest M n m) (hlo : (n : Int) - m - c ≤ lo ∧ -(m : Int) ≤ lo) (hz : ∃ z : Int, lo = (n : Int) - m - c + 2 * z) (hl : lo = (n : Int) - m - c ∨ lo ≤ -(m : Int) + 1) : BInv M n m mc c F G lo := by
  obtain ⟨z, hz⟩ := hz
  refine ⟨⟨z - c, by omega⟩, hlo, ?_, hp, hfo, hf, ?_⟩
  · intro k' hr hlt
    obtain ⟨hr1, y, hy⟩ := hr
    exfalso; omega
  · intro x y o d hf' hlt
    have fo := fewest_opt o
    have hd := dist_diagonal (rev M n m) (n - x) (m - y)
    obtain ⟨h1, h2, q, hq⟩ := hd
    obtain ⟨ox, oy, _⟩ := o
    have hr : rest M n m x y = c := by omega
    unfold rest at hr
    rw [hr] at h1 h2 hq
    omega
end
end Plain
end Go.Proofs.Qxb6600330a
