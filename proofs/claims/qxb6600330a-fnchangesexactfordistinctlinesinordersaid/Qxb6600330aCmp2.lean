import Derived.Test.Qxb6600330aCmp1
namespace Go.Proofs.Qxb6600330a
open Go.RowKit
set_option linter.unusedVariables false

/-- A run of marks. -/
def markB (D : Nat → Bool) (lo hi : Nat) : Nat → Bool := fun j => if lo ≤ j ∧ j < hi then true else D j
theorem markB_none (D : Nat → Bool) (lo : Nat) : markB D lo lo = D := by
  funext j; unfold markB; rw [if_neg (by omega)]
theorem markB_next (D : Nat → Bool) {lo k : Nat} (h : lo ≤ k) : updB (markB D lo k) k = markB D lo (k + 1) := by
  funext j; unfold updB markB
  by_cases e : j = k
  · rw [if_pos e, if_pos (by omega)]
  · rw [if_neg e]
    by_cases e2 : lo ≤ j ∧ j < k
    · rw [if_pos e2, if_pos (by omega)]
    · rw [if_neg e2, if_neg (by omega)]
section
variable {Q : Exit → Act → World → Prop} {a : Act} {w : World} {bd br bad bf bk N M mc alo ahi blo bhi x y : Nat} {ao bo : Option Addr} {A B : Nat → Int} {R D : Nat → Bool}
set_option maxRecDepth 100000 in
set_option maxHeartbeats 1000000 in
/-- the lines at the end that are the same -/
theorem c4 (hf : C35 a bd alo ahi blo bhi) (hw : CW w bd ao bo br bad bf bk N M mc A B R D) (hN : N ≤ 4096) (hM : M ≤ 4096) (ha : alo ≤ ahi) (ha' : ahi ≤ N) (hb : blo ≤ bhi) (hb' : bhi ≤ M)
    (hQ : ∀ a' w' t, C35 a' bd alo (ahi - t) blo (bhi - t) → Below w.heap.size w w' → (∀ u, u < t → A (ahi - 1 - u) = B (bhi - 1 - u)) → alo + t ≤ ahi → blo + t ≤ bhi → ¬ (alo < ahi - t ∧ blo < bhi - t ∧ A (ahi - t - 1) = B (bhi - t - 1)) → Q .normal a' w') :
    Code.wp Try.prog (nav [0, 0, 0, 1, 0] (Try.f35.body.getD .skip)) Q a w := by
  have HW : Hid (CW w bd ao bo br bad bf bk N M mc A B R D) := hw
  clear hw
  refine lit121 (p := fun a => C35 a bd alo ahi blo bhi → Code.wp Try.prog (nav [0, 0, 0, 1, 0] (Try.f35.body.getD .skip)) Q a w) ?_ a hf.sz hf.df hf
  clear hf
  intro u0 u1 u2 u3 u4 _ _ _ _ _ _ _ _ _ _ _ _ _ _ _ _ _ _ _ _ _ _ _ _ _ _ _ _ _ _ _ _ _ _ _ _ _ _ _ _ _ _ _ _ _ _ _ _ _ _ _ _ _ _ _ _ _ _ _ _ _ _ _ _ _ _ _ _ _ _ _ _ _ _ _ _ _ _ _ _ _ _ _ _ _ _ _ _ _ _ _ _ _ _ _ _ _ _ _ _ _ _ _ _ _ _ _ _ _ _ _ _ _ _ _ _ hf
  have e0 := hf.t0
  have e1 := hf.t1
  have e2 := hf.t2
  have e3 := hf.t3
  have e4 := hf.t4
  clear hf
  change u0 = _ at e0; change u1 = _ at e1; change u2 = _ at e2; change u3 = _ at e3; change u4 = _ at e4
  subst e0 e1 e2 e3 e4
  conv => arg 2; whnf
  go_wp2_with fail
  go_loopw [2, 4] (fun v2 v4 wr => ∃ p q t : Nat, alo ≤ p ∧ blo ≤ q ∧ p ≤ N ∧ q ≤ M ∧ v2 = .int .i64 (p : Int) ∧ v4 = .int .i64 (q : Int) ∧ Hid (p + t = ahi ∧ q + t = bhi ∧ (∀ u, u < t → A (ahi - 1 - u) = B (bhi - 1 - u)) ∧ Below w.heap.size w wr)) (fun v2 v4 wr => (intOf v2).toNat)
  case atStart => exact ⟨ahi, bhi, 0, ha, hb, ha', hb', rfl, rfl, by omega, by omega, fun u hu => absurd hu (by omega), Below.refl _ _⟩
  case round =>
    obtain ⟨p, q, t, hp, hq, hpN, hqM, rfl, rfl, hr⟩ := hrel
    have fin : ∀ (a' : Act) (nq : Nat), ¬ (alo < p ∧ blo < q ∧ A (p - 1) = B (q - 1)) → a'.tmps.size = 121 → a'.defers = [] → a'.tmps.getD 0 undef = .pointer (some ⟨bd, 0, none⟩) → a'.tmps.getD 1 undef = .int .i64 alo → a'.tmps.getD 2 undef = .int .i64 p → a'.tmps.getD 3 undef = .int .i64 blo → a'.tmps.getD 4 undef = .int .i64 q → Q .normal a' (wr.drewN nq) := by
      intro a' nq hno e1 e2 e3 e4 e5 e6 e7
      obtain ⟨r1, r2, r3, r4⟩ := hr.out
      refine hQ a' _ t ⟨e1, e2, e3, e4, ?_, e6, ?_⟩ (below_drewN r4 _) r3 (by omega) (by omega) ?_
      · rw [e5, show ahi - t = p from by omega]
      · rw [e7, show bhi - t = q from by omega]
      · rw [show ahi - t = p from by omega, show bhi - t = q from by omega]; exact hno
    have FIN : Hid (∀ (a' : Act) (nq : Nat), ¬ (alo < p ∧ blo < q ∧ A (p - 1) = B (q - 1)) → a'.tmps.size = 121 → a'.defers = [] → a'.tmps.getD 0 undef = .pointer (some ⟨bd, 0, none⟩) → a'.tmps.getD 1 undef = .int .i64 alo → a'.tmps.getD 2 undef = .int .i64 p → a'.tmps.getD 3 undef = .int .i64 blo → a'.tmps.getD 4 undef = .int .i64 q → Q .normal a' (wr.drewN nq)) := fin
    clear hQ fin
    by_cases q1 : (alo : Int) < (p : Int)
    · by_cases q2 : (blo : Int) < (q : Int)
      · obtain ⟨ba, rfl, ra, _⟩ := HW.out.a (by omega)
        obtain ⟨bb, rfl, rb, _⟩ := HW.out.b (by omega)
        have k0 := cell_later hr.out.2.2.2 HW.out.d.c0
        have k1 := cell_later hr.out.2.2.2 HW.out.d.c1
        have ka : wr.cell? ⟨ba, p - 1, none⟩ = some (.int .i64 (A (p - 1))) := by have := cell_later hr.out.2.2.2 (ra (p - 1) (by omega)); rw [Nat.zero_add] at this; exact this
        have kb : wr.cell? ⟨bb, q - 1, none⟩ = some (.int .i64 (B (q - 1))) := by have := cell_later hr.out.2.2.2 (rb (q - 1) (by omega)); rw [Nat.zero_add] at this; exact this
        have i1 : (1 : Int) ≤ (p : Int) := by omega
        have i2 : (1 : Int) ≤ (q : Int) := by omega
        have i3 : (p : Int) ≤ N := by omega
        have i4 : (q : Int) ≤ M := by omega
        have n1 : alo < p := by omega
        have n2 : blo < q := by omega
        clear ra rb
        go_wp2_with fail
        go_quiet (fail)
        go_wp2
        · have e : A (p - 1) = B (q - 1) := eq_of_beq (by assumption)
          go_roundw
          case rel => exact ⟨p - 1, q - 1, t + 1, by omega, by omega, by omega, by omega, by go_num, by go_num, by have := hr.out.1; omega, by have := hr.out.2.1; omega, fun u hu => by
            obtain ⟨r1, r2, r3, r4⟩ := hr.out
            by_cases hut : u < t
            · exact r3 u hut
            · obtain rfl : u = t := by omega
              rw [show ahi - 1 - u = p - 1 from by omega, show bhi - 1 - u = q - 1 from by omega]
              exact e, below_drewN hr.out.2.2.2 _⟩
          case measure => simp [intOf]; omega
        · have e : ¬ A (p - 1) = B (q - 1) := ne_of_beq_false (by assumption)
          exact FIN.out _ _ (fun h => e h.2.2) rfl rfl rfl rfl rfl rfl rfl
      · have q2' : decide ((blo : Int) < (q : Int)) = false := by simpa using q2
        have q2n : decide (blo < q) = false := by simp; omega
        have n1 : alo < p := by omega
        go_wp2_with fail
        go_quiet (fail)
        go_wp2
        exact FIN.out _ _ (fun h => by omega) rfl rfl rfl rfl rfl rfl rfl
    · have q1' : decide ((alo : Int) < (p : Int)) = false := by simpa using q1
      have q1n : decide (alo < p) = false := by simp; omega
      go_wp2_with fail
      go_quiet (fail)
      go_wp2
      exact FIN.out _ _ (fun h => by omega) rfl rfl rfl rfl rfl rfl rfl

set_option maxRecDepth 100000 in
set_option maxHeartbeats 1000000 in
theorem c5_no (hf : C35 a bd alo ahi blo bhi) (h : alo < ahi) (hQ : ∀ a', C35 a' bd alo ahi blo bhi → Q .normal a' w) : Code.wp Try.prog (nav [0, 0, 0, 1, 1, 0] (Try.f35.body.getD .skip)) Q a w := by
  have h' : ((alo : Int) == (ahi : Int)) = false := by simp; omega
  refine lit121 (p := fun a => C35 a bd alo ahi blo bhi → Code.wp Try.prog (nav [0, 0, 0, 1, 1, 0] (Try.f35.body.getD .skip)) Q a w) ?_ a hf.sz hf.df hf
  clear hf
  intro u0 u1 u2 u3 u4 _ _ _ _ _ _ _ _ _ _ _ _ _ _ _ _ _ _ _ _ _ _ _ _ _ _ _ _ _ _ _ _ _ _ _ _ _ _ _ _ _ _ _ _ _ _ _ _ _ _ _ _ _ _ _ _ _ _ _ _ _ _ _ _ _ _ _ _ _ _ _ _ _ _ _ _ _ _ _ _ _ _ _ _ _ _ _ _ _ _ _ _ _ _ _ _ _ _ _ _ _ _ _ _ _ _ _ _ _ _ _ _ _ _ _ _ hf
  have e0 := hf.t0
  have e1 := hf.t1
  have e2 := hf.t2
  have e3 := hf.t3
  have e4 := hf.t4
  clear hf
  change u0 = _ at e0; change u1 = _ at e1; change u2 = _ at e2; change u3 = _ at e3; change u4 = _ at e4
  subst e0 e1 e2 e3 e4
  conv => arg 2; whnf
  go_wp2
  exact ⟨rfl, rfl, rfl, rfl, rfl, rfl, rfl⟩

set_option maxRecDepth 100000 in
set_option maxHeartbeats 1000000 in
theorem c5 (hf : C35 a bd alo ahi blo bhi) (hw : CW w bd ao bo br bad bf bk N M mc A B R D) (hN : N ≤ 4096) (hM : M ≤ 4096) (ha : alo ≤ ahi) (ha' : ahi ≤ N) (hb : blo ≤ bhi) (hb' : bhi ≤ M) (h : alo = ahi)
    (hQ : ∀ a' w', a'.defers = [] → CW w' bd ao bo br bad bf bk N M mc A B R (markB D blo bhi) → Kept (XC br bad bf bk) w w' → Q .ret a' w') : Code.wp Try.prog (nav [0, 0, 0, 1, 1, 0] (Try.f35.body.getD .skip)) Q a w := by
  have h' : ((alo : Int) == (ahi : Int)) = true := by simp; omega
  have HW : Hid (CW w bd ao bo br bad bf bk N M mc A B R D) := hw
  clear hw
  have HH : Hid (alo = ahi) := h
  clear h
  refine lit121 (p := fun a => C35 a bd alo ahi blo bhi → Code.wp Try.prog (nav [0, 0, 0, 1, 1, 0] (Try.f35.body.getD .skip)) Q a w) ?_ a hf.sz hf.df hf
  clear hf
  intro u0 u1 u2 u3 u4 _ _ _ _ _ _ _ _ _ _ _ _ _ _ _ _ _ _ _ _ _ _ _ _ _ _ _ _ _ _ _ _ _ _ _ _ _ _ _ _ _ _ _ _ _ _ _ _ _ _ _ _ _ _ _ _ _ _ _ _ _ _ _ _ _ _ _ _ _ _ _ _ _ _ _ _ _ _ _ _ _ _ _ _ _ _ _ _ _ _ _ _ _ _ _ _ _ _ _ _ _ _ _ _ _ _ _ _ _ _ _ _ _ _ _ _ hf
  have e0 := hf.t0
  have e1 := hf.t1
  have e2 := hf.t2
  have e3 := hf.t3
  have e4 := hf.t4
  clear hf
  change u0 = _ at e0; change u1 = _ at e1; change u2 = _ at e2; change u3 = _ at e3; change u4 = _ at e4
  subst e0 e1 e2 e3 e4
  conv => arg 2; whnf
  go_wp2_with fail
  go_loopw [10] (fun v wr => ∃ k : Nat, blo ≤ k ∧ k ≤ bhi ∧ v = .int .i64 (k : Int) ∧ Hid (CW wr bd ao bo br bad bf bk N M mc A B R (markB D blo k) ∧ Kept (XC br bad bf bk) w wr)) (fun v wr => bhi - (intOf v).toNat)
  case atStart => exact ⟨blo, by omega, by omega, rfl, by rw [markB_none]; exact HW.out, Kept.refl _ _⟩
  case round =>
    obtain ⟨k, hk1, hk2, rfl, hr⟩ := hrel
    by_cases q : (k : Int) < (bhi : Int)
    · have c0 := hr.out.1.d.c3
      have k1 := hr.out.1.e.cell (i := k) (by omega)
      have k2 := hr.out.1.e.frozen k
      have i1 : (k : Int) < M := by omega
      go_wp2
      go_roundw
      case rel =>
        refine ⟨k + 1, by omega, by omega, by go_num, ?_, hr.out.2.trans (Kept.setCell _ (by unfold XC; simp))⟩
        rw [← markB_next _ hk1]
        exact hr.out.1.setD k
      case measure => simp [intOf]; omega
    · have HR : Hid (CW wr bd ao bo br bad bf bk N M mc A B R (markB D blo bhi) ∧ Kept (XC br bad bf bk) w wr) := by
        have ek : k = bhi := by omega
        have h2 := hr.out
        rw [ek] at h2
        exact h2
      clear hr
      go_wp2
      exact hQ _ _ rfl HR.out.1 HR.out.2

set_option maxRecDepth 100000 in
set_option maxHeartbeats 1000000 in
theorem c9_no (hf : C35 a bd alo ahi blo bhi) (h : blo < bhi) (hQ : ∀ a', C35 a' bd alo ahi blo bhi → Q .normal a' w) : Code.wp Try.prog (nav [0, 0, 0, 1, 1, 1, 0] (Try.f35.body.getD .skip)) Q a w := by
  have h' : ((blo : Int) == (bhi : Int)) = false := by simp; omega
  refine lit121 (p := fun a => C35 a bd alo ahi blo bhi → Code.wp Try.prog (nav [0, 0, 0, 1, 1, 1, 0] (Try.f35.body.getD .skip)) Q a w) ?_ a hf.sz hf.df hf
  clear hf
  intro u0 u1 u2 u3 u4 _ _ _ _ _ _ _ _ _ _ _ _ _ _ _ _ _ _ _ _ _ _ _ _ _ _ _ _ _ _ _ _ _ _ _ _ _ _ _ _ _ _ _ _ _ _ _ _ _ _ _ _ _ _ _ _ _ _ _ _ _ _ _ _ _ _ _ _ _ _ _ _ _ _ _ _ _ _ _ _ _ _ _ _ _ _ _ _ _ _ _ _ _ _ _ _ _ _ _ _ _ _ _ _ _ _ _ _ _ _ _ _ _ _ _ _ hf
  have e0 := hf.t0
  have e1 := hf.t1
  have e2 := hf.t2
  have e3 := hf.t3
  have e4 := hf.t4
  clear hf
  change u0 = _ at e0; change u1 = _ at e1; change u2 = _ at e2; change u3 = _ at e3; change u4 = _ at e4
  subst e0 e1 e2 e3 e4
  conv => arg 2; whnf
  go_wp2
  exact ⟨rfl, rfl, rfl, rfl, rfl, rfl, rfl⟩

set_option maxRecDepth 100000 in
set_option maxHeartbeats 1000000 in
theorem c9 (hf : C35 a bd alo ahi blo bhi) (hw : CW w bd ao bo br bad bf bk N M mc A B R D) (hN : N ≤ 4096) (hM : M ≤ 4096) (ha : alo ≤ ahi) (ha' : ahi ≤ N) (hb : blo ≤ bhi) (hb' : bhi ≤ M) (h : blo = bhi)
    (hQ : ∀ a' w', a'.defers = [] → CW w' bd ao bo br bad bf bk N M mc A B (markB R alo ahi) D → Kept (XC br bad bf bk) w w' → Q .ret a' w') : Code.wp Try.prog (nav [0, 0, 0, 1, 1, 1, 0] (Try.f35.body.getD .skip)) Q a w := by
  have h' : ((blo : Int) == (bhi : Int)) = true := by simp; omega
  have HW : Hid (CW w bd ao bo br bad bf bk N M mc A B R D) := hw
  clear hw
  have HH : Hid (blo = bhi) := h
  clear h
  refine lit121 (p := fun a => C35 a bd alo ahi blo bhi → Code.wp Try.prog (nav [0, 0, 0, 1, 1, 1, 0] (Try.f35.body.getD .skip)) Q a w) ?_ a hf.sz hf.df hf
  clear hf
  intro u0 u1 u2 u3 u4 _ _ _ _ _ _ _ _ _ _ _ _ _ _ _ _ _ _ _ _ _ _ _ _ _ _ _ _ _ _ _ _ _ _ _ _ _ _ _ _ _ _ _ _ _ _ _ _ _ _ _ _ _ _ _ _ _ _ _ _ _ _ _ _ _ _ _ _ _ _ _ _ _ _ _ _ _ _ _ _ _ _ _ _ _ _ _ _ _ _ _ _ _ _ _ _ _ _ _ _ _ _ _ _ _ _ _ _ _ _ _ _ _ _ _ _ hf
  have e0 := hf.t0
  have e1 := hf.t1
  have e2 := hf.t2
  have e3 := hf.t3
  have e4 := hf.t4
  clear hf
  change u0 = _ at e0; change u1 = _ at e1; change u2 = _ at e2; change u3 = _ at e3; change u4 = _ at e4
  subst e0 e1 e2 e3 e4
  conv => arg 2; whnf
  go_wp2_with fail
  go_loopw [11] (fun v wr => ∃ k : Nat, alo ≤ k ∧ k ≤ ahi ∧ v = .int .i64 (k : Int) ∧ Hid (CW wr bd ao bo br bad bf bk N M mc A B (markB R alo k) D ∧ Kept (XC br bad bf bk) w wr)) (fun v wr => ahi - (intOf v).toNat)
  case atStart => exact ⟨alo, by omega, by omega, rfl, by rw [markB_none]; exact HW.out, Kept.refl _ _⟩
  case round =>
    obtain ⟨k, hk1, hk2, rfl, hr⟩ := hrel
    by_cases q : (k : Int) < (ahi : Int)
    · have c0 := hr.out.1.d.c2
      have k1 := hr.out.1.r.cell (i := k) (by omega)
      have k2 := hr.out.1.r.frozen k
      have i1 : (k : Int) < N := by omega
      go_wp2
      go_roundw
      case rel =>
        refine ⟨k + 1, by omega, by omega, by go_num, ?_, hr.out.2.trans (Kept.setCell _ (by unfold XC; simp))⟩
        rw [← markB_next _ hk1]
        exact hr.out.1.setR k
      case measure => simp [intOf]; omega
    · have HR : Hid (CW wr bd ao bo br bad bf bk N M mc A B (markB R alo ahi) D ∧ Kept (XC br bad bf bk) w wr) := by
        have ek : k = ahi := by omega
        have h2 := hr.out
        rw [ek] at h2
        exact h2
      clear hr
      go_wp2
      exact hQ _ _ rfl HR.out.1 HR.out.2

set_option maxRecDepth 100000 in
set_option maxHeartbeats 1000000 in
theorem c14 {R2 : Nat → Nat → World → Prop} (hf : C35 a bd alo ahi blo bhi) (hcall : Calls Try.prog 36 #[.pointer (some ⟨bd, 0, none⟩), .int .i64 alo, .int .i64 ahi, .int .i64 blo, .int .i64 bhi] w fun e w' => ∃ X Y : Nat, e = .returned (.tuple #[.int .i64 (X : Int), .int .i64 (Y : Int)]) ∧ R2 X Y w')
    (hQ : ∀ a' w' X Y, C35X a' bd alo ahi blo bhi X Y → R2 X Y w' → Q .normal a' w') : Code.wp Try.prog (nav [0, 0, 0, 1, 1, 1, 1, 0] (Try.f35.body.getD .skip)) Q a w := by
  have HC : Hid (Calls Try.prog 36 #[.pointer (some ⟨bd, 0, none⟩), .int .i64 alo, .int .i64 ahi, .int .i64 blo, .int .i64 bhi] w fun e w' => ∃ X Y : Nat, e = .returned (.tuple #[.int .i64 (X : Int), .int .i64 (Y : Int)]) ∧ R2 X Y w') := hcall
  clear hcall
  refine lit121 (p := fun a => C35 a bd alo ahi blo bhi → Code.wp Try.prog (nav [0, 0, 0, 1, 1, 1, 1, 0] (Try.f35.body.getD .skip)) Q a w) ?_ a hf.sz hf.df hf
  clear hf
  intro u0 u1 u2 u3 u4 _ _ _ _ _ _ _ _ _ _ _ _ _ _ _ _ _ _ _ _ _ _ _ _ _ _ _ _ _ _ _ _ _ _ _ _ _ _ _ _ _ _ _ _ _ _ _ _ _ _ _ _ _ _ _ _ _ _ _ _ _ _ _ _ _ _ _ _ _ _ _ _ _ _ _ _ _ _ _ _ _ _ _ _ _ _ _ _ _ _ _ _ _ _ _ _ _ _ _ _ _ _ _ _ _ _ _ _ _ _ _ _ _ _ _ _ hf
  have e0 := hf.t0
  have e1 := hf.t1
  have e2 := hf.t2
  have e3 := hf.t3
  have e4 := hf.t4
  clear hf
  change u0 = _ at e0; change u1 = _ at e1; change u2 = _ at e2; change u3 = _ at e3; change u4 = _ at e4
  subst e0 e1 e2 e3 e4
  conv => arg 2; whnf
  go_wp2_with (go_at_call 36; refine HC.out.mono ?_; rintro e w1 ⟨X, Y, rfl, hR⟩; have HR := (show Hid (R2 X Y w1) from hR); clear hR)
  exact hQ _ _ X Y ⟨⟨rfl, rfl, rfl, rfl, rfl, rfl, rfl⟩, rfl, rfl⟩ HR.out

set_option maxRecDepth 100000 in
set_option maxHeartbeats 1000000 in
theorem c15 {R2 : World → Prop} (hf : C35X a bd alo ahi blo bhi x y) (hcall : Calls Try.prog 35 #[.pointer (some ⟨bd, 0, none⟩), .int .i64 alo, .int .i64 x, .int .i64 blo, .int .i64 y] w fun e w' => e = .returned (.tuple #[]) ∧ R2 w')
    (hQ : ∀ a' w', C35X a' bd alo ahi blo bhi x y → R2 w' → Q .normal a' w') : Code.wp Try.prog (nav [0, 0, 0, 1, 1, 1, 1, 1, 0] (Try.f35.body.getD .skip)) Q a w := by
  have HC : Hid (Calls Try.prog 35 #[.pointer (some ⟨bd, 0, none⟩), .int .i64 alo, .int .i64 x, .int .i64 blo, .int .i64 y] w fun e w' => e = .returned (.tuple #[]) ∧ R2 w') := hcall
  clear hcall
  refine lit121 (p := fun a => C35X a bd alo ahi blo bhi x y → Code.wp Try.prog (nav [0, 0, 0, 1, 1, 1, 1, 1, 0] (Try.f35.body.getD .skip)) Q a w) ?_ a hf.sz hf.df hf
  clear hf
  intro u0 u1 u2 u3 u4 _ _ _ _ _ _ _ u12 u13 _ _ _ _ _ _ _ _ _ _ _ _ _ _ _ _ _ _ _ _ _ _ _ _ _ _ _ _ _ _ _ _ _ _ _ _ _ _ _ _ _ _ _ _ _ _ _ _ _ _ _ _ _ _ _ _ _ _ _ _ _ _ _ _ _ _ _ _ _ _ _ _ _ _ _ _ _ _ _ _ _ _ _ _ _ _ _ _ _ _ _ _ _ _ _ _ _ _ _ _ _ _ _ _ _ _ _ hf
  have e0 := hf.t0
  have e1 := hf.t1
  have e2 := hf.t2
  have e3 := hf.t3
  have e4 := hf.t4
  have e12 := hf.t12
  have e13 := hf.t13
  clear hf
  change u0 = _ at e0; change u1 = _ at e1; change u2 = _ at e2; change u3 = _ at e3; change u4 = _ at e4; change u12 = _ at e12; change u13 = _ at e13
  subst e0 e1 e2 e3 e4 e12 e13
  conv => arg 2; whnf
  go_wp2_with (go_at_call 35; refine HC.out.mono ?_; rintro e w1 ⟨rfl, hR⟩; have HR := (show Hid (R2 w1) from hR); clear hR)
  exact hQ _ _ ⟨⟨rfl, rfl, rfl, rfl, rfl, rfl, rfl⟩, rfl, rfl⟩ HR.out

set_option maxRecDepth 100000 in
set_option maxHeartbeats 1000000 in
theorem c16 (hf : C35X a bd alo ahi blo bhi x y) (hQ : ∀ a', C35 a' bd x ahi y bhi → Q .normal a' w) : Code.wp Try.prog (nav [0, 0, 0, 1, 1, 1, 1, 1, 1] (Try.f35.body.getD .skip)) Q a w := by
  refine lit121 (p := fun a => C35X a bd alo ahi blo bhi x y → Code.wp Try.prog (nav [0, 0, 0, 1, 1, 1, 1, 1, 1] (Try.f35.body.getD .skip)) Q a w) ?_ a hf.sz hf.df hf
  clear hf
  intro u0 u1 u2 u3 u4 _ _ _ _ _ _ _ u12 u13 _ _ _ _ _ _ _ _ _ _ _ _ _ _ _ _ _ _ _ _ _ _ _ _ _ _ _ _ _ _ _ _ _ _ _ _ _ _ _ _ _ _ _ _ _ _ _ _ _ _ _ _ _ _ _ _ _ _ _ _ _ _ _ _ _ _ _ _ _ _ _ _ _ _ _ _ _ _ _ _ _ _ _ _ _ _ _ _ _ _ _ _ _ _ _ _ _ _ _ _ _ _ _ _ _ _ _ hf
  have e0 := hf.t0
  have e1 := hf.t1
  have e2 := hf.t2
  have e3 := hf.t3
  have e4 := hf.t4
  have e12 := hf.t12
  have e13 := hf.t13
  clear hf
  change u0 = _ at e0; change u1 = _ at e1; change u2 = _ at e2; change u3 = _ at e3; change u4 = _ at e4; change u12 = _ at e12; change u13 = _ at e13
  subst e0 e1 e2 e3 e4 e12 e13
  conv => arg 2; whnf
  go_wp2
  exact ⟨rfl, rfl, rfl, rfl, rfl, rfl, rfl⟩

end
end Go.Proofs.Qxb6600330a
