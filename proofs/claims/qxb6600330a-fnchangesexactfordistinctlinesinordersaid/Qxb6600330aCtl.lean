import Derived.Test.Qxb6600330aFrame
namespace Go.Proofs.Qxb6600330a
open Go.RowKit
set_option linter.unusedVariables false
/-- Behind 'diagonals'. -/
structure FD (a : Act) (bd bg ba bb alo blo n m ca cb c : Nat) (lo hi : Int) : Prop extends F36 a bd bg ba bb alo blo n m ca cb c where
  t19 : a.tmps.getD 19 undef = .int .i64 lo
  t20 : a.tmps.getD 20 undef = .int .i64 hi
section
variable {Q : Exit → Act → World → Prop} {a : Act} {w0 w : World} {bd bg ba bb bf bk : Nat} {va vb vr vad : Value} {alo blo n m ca cb c mc : Nat} {A B F G : Nat → Int} {hi k x : Int}
variable {lo : Int}

set_option maxRecDepth 100000 in
set_option maxHeartbeats 1000000 in
theorem f9_in (hf : FK a bd bg ba bb alo blo n m ca cb c hi k) (h : k ≤ hi)
    (hQ : ∀ a', FK a' bd bg ba bb alo blo n m ca cb c hi k → Q .normal a' w) : Code.wp Try.prog (nav [1, 1, 1, 1, 0, 1, 0, 0, 1, 0, 0, 1, 0, 1, 0, 0, 0] (Try.f36.body.getD .skip)) Q a w := by
  refine lit344 (p := fun a => FK a bd bg ba bb alo blo n m ca cb c hi k → Code.wp Try.prog (nav [1, 1, 1, 1, 0, 1, 0, 0, 1, 0, 0, 1, 0, 1, 0, 0, 0] (Try.f36.body.getD .skip)) Q a w) ?_ a hf.sz hf.df hf
  clear hf
  intro u0 u1 _ u3 _ _ _ _ _ _ _ _ u12 u13 u14 u15 u16 u17 u18 _ u20 u21 _ _ _ _ _ _ _ _ _ _ _ _ _ _ _ _ _ _ _ _ _ _ _ _ _ _ _ _ _ _ _ _ _ _ _ _ _ _ _ _ _ _ _ _ _ _ _ _ _ _ _ _ _ _ _ _ _ _ _ _ _ _ _ _ _ _ _ _ _ _ _ _ _ _ _ _ _ _ _ _ _ _ _ _ _ _ _ _ _ _ _ _ _ _ _ _ _ _ _ _ _ _ _ _ _ _ _ _ _ _ _ _ _ _ _ _ _ _ _ _ _ _ _ _ _ _ _ _ _ _ _ _ _ _ _ _ _ _ _ _ _ _ _ _ _ _ _ _ _ _ _ _ _ _ _ _ _ _ _ _ _ _ _ _ _ _ _ _ _ _ _ _ _ _ _ _ _ _ _ _ _ _ _ _ _ _ _ _ _ _ _ _ _ _ _ _ _ _ _ _ _ _ _ _ _ _ _ _ _ _ _ _ _ _ _ _ _ _ _ _ _ _ _ _ _ _ _ _ _ _ _ _ _ _ _ _ _ _ _ _ _ _ _ _ _ _ _ _ _ _ _ _ _ _ _ _ _ _ _ _ _ _ _ _ _ _ _ _ _ _ _ _ _ _ _ _ _ _ _ _ _ _ _ _ _ _ _ _ _ _ _ _ _ _ _ _ _ _ _ _ _ _ _ _ _ _ _ _ _ _ _ _ _ _ _ _ _ _ _ _ _ _ hf
  have e0 := hf.t0
  have e1 := hf.t1
  have e3 := hf.t3
  have e12 := hf.t12
  have e13 := hf.t13
  have e14 := hf.t14
  have e15 := hf.t15
  have e16 := hf.t16
  have e17 := hf.t17
  have e18 := hf.t18
  have e20 := hf.t20
  have e21 := hf.t21
  clear hf
  change u0 = _ at e0; change u1 = _ at e1; change u3 = _ at e3; change u12 = _ at e12; change u13 = _ at e13; change u14 = _ at e14; change u15 = _ at e15; change u16 = _ at e16; change u17 = _ at e17; change u18 = _ at e18; change u20 = _ at e20; change u21 = _ at e21
  subst e0 e1 e3 e12 e13 e14 e15 e16 e17 e18 e20 e21
  conv => arg 2; whnf
  go_wp2
  exact ⟨⟨rfl, rfl, rfl, rfl, rfl, rfl, rfl, rfl, rfl, rfl, rfl, rfl⟩, rfl, rfl⟩

set_option maxRecDepth 100000 in
set_option maxHeartbeats 1000000 in
theorem f9_out (hf : FK a bd bg ba bb alo blo n m ca cb c hi k) (h : hi < k)
    (hQ : ∀ a', FK a' bd bg ba bb alo blo n m ca cb c hi k → Q (.exit 2) a' w) : Code.wp Try.prog (nav [1, 1, 1, 1, 0, 1, 0, 0, 1, 0, 0, 1, 0, 1, 0, 0, 0] (Try.f36.body.getD .skip)) Q a w := by
  refine lit344 (p := fun a => FK a bd bg ba bb alo blo n m ca cb c hi k → Code.wp Try.prog (nav [1, 1, 1, 1, 0, 1, 0, 0, 1, 0, 0, 1, 0, 1, 0, 0, 0] (Try.f36.body.getD .skip)) Q a w) ?_ a hf.sz hf.df hf
  clear hf
  intro u0 u1 _ u3 _ _ _ _ _ _ _ _ u12 u13 u14 u15 u16 u17 u18 _ u20 u21 _ _ _ _ _ _ _ _ _ _ _ _ _ _ _ _ _ _ _ _ _ _ _ _ _ _ _ _ _ _ _ _ _ _ _ _ _ _ _ _ _ _ _ _ _ _ _ _ _ _ _ _ _ _ _ _ _ _ _ _ _ _ _ _ _ _ _ _ _ _ _ _ _ _ _ _ _ _ _ _ _ _ _ _ _ _ _ _ _ _ _ _ _ _ _ _ _ _ _ _ _ _ _ _ _ _ _ _ _ _ _ _ _ _ _ _ _ _ _ _ _ _ _ _ _ _ _ _ _ _ _ _ _ _ _ _ _ _ _ _ _ _ _ _ _ _ _ _ _ _ _ _ _ _ _ _ _ _ _ _ _ _ _ _ _ _ _ _ _ _ _ _ _ _ _ _ _ _ _ _ _ _ _ _ _ _ _ _ _ _ _ _ _ _ _ _ _ _ _ _ _ _ _ _ _ _ _ _ _ _ _ _ _ _ _ _ _ _ _ _ _ _ _ _ _ _ _ _ _ _ _ _ _ _ _ _ _ _ _ _ _ _ _ _ _ _ _ _ _ _ _ _ _ _ _ _ _ _ _ _ _ _ _ _ _ _ _ _ _ _ _ _ _ _ _ _ _ _ _ _ _ _ _ _ _ _ _ _ _ _ _ _ _ _ _ _ _ _ _ _ _ _ _ _ _ _ _ _ _ _ _ _ _ _ _ _ _ _ _ _ _ _ hf
  have e0 := hf.t0
  have e1 := hf.t1
  have e3 := hf.t3
  have e12 := hf.t12
  have e13 := hf.t13
  have e14 := hf.t14
  have e15 := hf.t15
  have e16 := hf.t16
  have e17 := hf.t17
  have e18 := hf.t18
  have e20 := hf.t20
  have e21 := hf.t21
  clear hf
  change u0 = _ at e0; change u1 = _ at e1; change u3 = _ at e3; change u12 = _ at e12; change u13 = _ at e13; change u14 = _ at e14; change u15 = _ at e15; change u16 = _ at e16; change u17 = _ at e17; change u18 = _ at e18; change u20 = _ at e20; change u21 = _ at e21
  subst e0 e1 e3 e12 e13 e14 e15 e16 e17 e18 e20 e21
  conv => arg 2; whnf
  go_wp2
  exact ⟨⟨rfl, rfl, rfl, rfl, rfl, rfl, rfl, rfl, rfl, rfl, rfl, rfl⟩, rfl, rfl⟩

set_option maxRecDepth 100000 in
set_option maxHeartbeats 1000000 in
theorem b30_in (hf : BK a bd bg ba bb alo blo n m ca cb c hi k) (h : k ≤ hi)
    (hQ : ∀ a', BK a' bd bg ba bb alo blo n m ca cb c hi k → Q .normal a' w) : Code.wp Try.prog (nav [1, 1, 1, 1, 0, 1, 0, 0, 1, 0, 0, 1, 1, 1, 1, 0, 0, 0] (Try.f36.body.getD .skip)) Q a w := by
  refine lit344 (p := fun a => BK a bd bg ba bb alo blo n m ca cb c hi k → Code.wp Try.prog (nav [1, 1, 1, 1, 0, 1, 0, 0, 1, 0, 0, 1, 1, 1, 1, 0, 0, 0] (Try.f36.body.getD .skip)) Q a w) ?_ a hf.sz hf.df hf
  clear hf
  intro u0 u1 _ u3 _ _ _ _ _ _ _ _ u12 u13 u14 u15 u16 u17 u18 _ u20 _ _ _ _ _ u26 _ _ _ _ _ _ _ _ _ _ _ _ _ _ _ _ _ _ _ _ _ _ _ _ _ _ _ _ _ _ _ _ _ _ _ _ _ _ _ _ _ _ _ _ _ _ _ _ _ _ _ _ _ _ _ _ _ _ _ _ _ _ _ _ _ _ _ _ _ _ _ _ _ _ _ _ _ _ _ _ _ _ _ _ _ _ _ _ _ _ _ _ _ _ _ _ _ _ _ _ _ _ _ _ _ _ _ _ _ _ _ _ _ _ _ _ _ _ _ _ _ _ _ _ _ _ _ _ _ _ _ _ _ _ _ _ _ _ _ _ _ _ _ _ _ _ _ _ _ _ _ _ _ _ _ _ _ _ _ _ _ _ _ _ _ _ _ _ _ _ _ _ _ _ _ _ _ _ _ _ _ _ _ _ _ _ _ _ _ _ _ _ _ _ _ _ _ _ _ _ _ _ _ _ _ _ _ _ _ _ _ _ _ _ _ _ _ _ _ _ _ _ _ _ _ _ _ _ _ _ _ _ _ _ _ _ _ _ _ _ _ _ _ _ _ _ _ _ _ _ _ _ _ _ _ _ _ _ _ _ _ _ _ _ _ _ _ _ _ _ _ _ _ _ _ _ _ _ _ _ _ _ _ _ _ _ _ _ _ _ _ _ _ _ _ _ _ _ _ _ _ _ _ _ _ _ _ _ _ _ _ _ _ _ _ _ _ hf
  have e0 := hf.t0
  have e1 := hf.t1
  have e3 := hf.t3
  have e12 := hf.t12
  have e13 := hf.t13
  have e14 := hf.t14
  have e15 := hf.t15
  have e16 := hf.t16
  have e17 := hf.t17
  have e18 := hf.t18
  have e20 := hf.t20
  have e26 := hf.t26
  clear hf
  change u0 = _ at e0; change u1 = _ at e1; change u3 = _ at e3; change u12 = _ at e12; change u13 = _ at e13; change u14 = _ at e14; change u15 = _ at e15; change u16 = _ at e16; change u17 = _ at e17; change u18 = _ at e18; change u20 = _ at e20; change u26 = _ at e26
  subst e0 e1 e3 e12 e13 e14 e15 e16 e17 e18 e20 e26
  conv => arg 2; whnf
  go_wp2
  exact ⟨⟨rfl, rfl, rfl, rfl, rfl, rfl, rfl, rfl, rfl, rfl, rfl, rfl⟩, rfl, rfl⟩

set_option maxRecDepth 100000 in
set_option maxHeartbeats 1000000 in
theorem b30_out (hf : BK a bd bg ba bb alo blo n m ca cb c hi k) (h : hi < k)
    (hQ : ∀ a', BK a' bd bg ba bb alo blo n m ca cb c hi k → Q (.exit 6) a' w) : Code.wp Try.prog (nav [1, 1, 1, 1, 0, 1, 0, 0, 1, 0, 0, 1, 1, 1, 1, 0, 0, 0] (Try.f36.body.getD .skip)) Q a w := by
  refine lit344 (p := fun a => BK a bd bg ba bb alo blo n m ca cb c hi k → Code.wp Try.prog (nav [1, 1, 1, 1, 0, 1, 0, 0, 1, 0, 0, 1, 1, 1, 1, 0, 0, 0] (Try.f36.body.getD .skip)) Q a w) ?_ a hf.sz hf.df hf
  clear hf
  intro u0 u1 _ u3 _ _ _ _ _ _ _ _ u12 u13 u14 u15 u16 u17 u18 _ u20 _ _ _ _ _ u26 _ _ _ _ _ _ _ _ _ _ _ _ _ _ _ _ _ _ _ _ _ _ _ _ _ _ _ _ _ _ _ _ _ _ _ _ _ _ _ _ _ _ _ _ _ _ _ _ _ _ _ _ _ _ _ _ _ _ _ _ _ _ _ _ _ _ _ _ _ _ _ _ _ _ _ _ _ _ _ _ _ _ _ _ _ _ _ _ _ _ _ _ _ _ _ _ _ _ _ _ _ _ _ _ _ _ _ _ _ _ _ _ _ _ _ _ _ _ _ _ _ _ _ _ _ _ _ _ _ _ _ _ _ _ _ _ _ _ _ _ _ _ _ _ _ _ _ _ _ _ _ _ _ _ _ _ _ _ _ _ _ _ _ _ _ _ _ _ _ _ _ _ _ _ _ _ _ _ _ _ _ _ _ _ _ _ _ _ _ _ _ _ _ _ _ _ _ _ _ _ _ _ _ _ _ _ _ _ _ _ _ _ _ _ _ _ _ _ _ _ _ _ _ _ _ _ _ _ _ _ _ _ _ _ _ _ _ _ _ _ _ _ _ _ _ _ _ _ _ _ _ _ _ _ _ _ _ _ _ _ _ _ _ _ _ _ _ _ _ _ _ _ _ _ _ _ _ _ _ _ _ _ _ _ _ _ _ _ _ _ _ _ _ _ _ _ _ _ _ _ _ _ _ _ _ _ _ _ _ _ _ _ _ _ _ _ _ hf
  have e0 := hf.t0
  have e1 := hf.t1
  have e3 := hf.t3
  have e12 := hf.t12
  have e13 := hf.t13
  have e14 := hf.t14
  have e15 := hf.t15
  have e16 := hf.t16
  have e17 := hf.t17
  have e18 := hf.t18
  have e20 := hf.t20
  have e26 := hf.t26
  clear hf
  change u0 = _ at e0; change u1 = _ at e1; change u3 = _ at e3; change u12 = _ at e12; change u13 = _ at e13; change u14 = _ at e14; change u15 = _ at e15; change u16 = _ at e16; change u17 = _ at e17; change u18 = _ at e18; change u20 = _ at e20; change u26 = _ at e26
  subst e0 e1 e3 e12 e13 e14 e15 e16 e17 e18 e20 e26
  conv => arg 2; whnf
  go_wp2
  exact ⟨⟨rfl, rfl, rfl, rfl, rfl, rfl, rfl, rfl, rfl, rfl, rfl, rfl⟩, rfl, rfl⟩

set_option maxRecDepth 100000 in
set_option maxHeartbeats 1000000 in
theorem f10 (hf : FK a bd bg ba bb alo blo n m ca cb c hi k) (h5 : -20000 ≤ k) (h6 : k ≤ 20000)
    (hQ : ∀ a', FK a' bd bg ba bb alo blo n m ca cb c hi (k + 2) → Q .normal a' w) : Code.wp Try.prog (nav [1, 1, 1, 1, 0, 1, 0, 0, 1, 0, 0, 1, 0, 1, 0, 0, 1, 1] (Try.f36.body.getD .skip)) Q a w := by
  refine lit344 (p := fun a => FK a bd bg ba bb alo blo n m ca cb c hi k → Code.wp Try.prog (nav [1, 1, 1, 1, 0, 1, 0, 0, 1, 0, 0, 1, 0, 1, 0, 0, 1, 1] (Try.f36.body.getD .skip)) Q a w) ?_ a hf.sz hf.df hf
  clear hf
  intro u0 u1 _ u3 _ _ _ _ _ _ _ _ u12 u13 u14 u15 u16 u17 u18 _ u20 u21 _ _ _ _ _ _ _ _ _ _ _ _ _ _ _ _ _ _ _ _ _ _ _ _ _ _ _ _ _ _ _ _ _ _ _ _ _ _ _ _ _ _ _ _ _ _ _ _ _ _ _ _ _ _ _ _ _ _ _ _ _ _ _ _ _ _ _ _ _ _ _ _ _ _ _ _ _ _ _ _ _ _ _ _ _ _ _ _ _ _ _ _ _ _ _ _ _ _ _ _ _ _ _ _ _ _ _ _ _ _ _ _ _ _ _ _ _ _ _ _ _ _ _ _ _ _ _ _ _ _ _ _ _ _ _ _ _ _ _ _ _ _ _ _ _ _ _ _ _ _ _ _ _ _ _ _ _ _ _ _ _ _ _ _ _ _ _ _ _ _ _ _ _ _ _ _ _ _ _ _ _ _ _ _ _ _ _ _ _ _ _ _ _ _ _ _ _ _ _ _ _ _ _ _ _ _ _ _ _ _ _ _ _ _ _ _ _ _ _ _ _ _ _ _ _ _ _ _ _ _ _ _ _ _ _ _ _ _ _ _ _ _ _ _ _ _ _ _ _ _ _ _ _ _ _ _ _ _ _ _ _ _ _ _ _ _ _ _ _ _ _ _ _ _ _ _ _ _ _ _ _ _ _ _ _ _ _ _ _ _ _ _ _ _ _ _ _ _ _ _ _ _ _ _ _ _ _ _ _ _ _ _ _ _ _ _ _ _ _ _ _ _ hf
  have e0 := hf.t0
  have e1 := hf.t1
  have e3 := hf.t3
  have e12 := hf.t12
  have e13 := hf.t13
  have e14 := hf.t14
  have e15 := hf.t15
  have e16 := hf.t16
  have e17 := hf.t17
  have e18 := hf.t18
  have e20 := hf.t20
  have e21 := hf.t21
  clear hf
  change u0 = _ at e0; change u1 = _ at e1; change u3 = _ at e3; change u12 = _ at e12; change u13 = _ at e13; change u14 = _ at e14; change u15 = _ at e15; change u16 = _ at e16; change u17 = _ at e17; change u18 = _ at e18; change u20 = _ at e20; change u21 = _ at e21
  subst e0 e1 e3 e12 e13 e14 e15 e16 e17 e18 e20 e21
  conv => arg 2; whnf
  go_wp2
  exact ⟨⟨rfl, rfl, rfl, rfl, rfl, rfl, rfl, rfl, rfl, rfl, rfl, rfl⟩, rfl, rfl⟩

set_option maxRecDepth 100000 in
set_option maxHeartbeats 1000000 in
theorem b31 (hf : BK a bd bg ba bb alo blo n m ca cb c hi k) (h5 : -20000 ≤ k) (h6 : k ≤ 20000)
    (hQ : ∀ a', BK a' bd bg ba bb alo blo n m ca cb c hi (k + 2) → Q .normal a' w) : Code.wp Try.prog (nav [1, 1, 1, 1, 0, 1, 0, 0, 1, 0, 0, 1, 1, 1, 1, 0, 0, 1, 1] (Try.f36.body.getD .skip)) Q a w := by
  refine lit344 (p := fun a => BK a bd bg ba bb alo blo n m ca cb c hi k → Code.wp Try.prog (nav [1, 1, 1, 1, 0, 1, 0, 0, 1, 0, 0, 1, 1, 1, 1, 0, 0, 1, 1] (Try.f36.body.getD .skip)) Q a w) ?_ a hf.sz hf.df hf
  clear hf
  intro u0 u1 _ u3 _ _ _ _ _ _ _ _ u12 u13 u14 u15 u16 u17 u18 _ u20 _ _ _ _ _ u26 _ _ _ _ _ _ _ _ _ _ _ _ _ _ _ _ _ _ _ _ _ _ _ _ _ _ _ _ _ _ _ _ _ _ _ _ _ _ _ _ _ _ _ _ _ _ _ _ _ _ _ _ _ _ _ _ _ _ _ _ _ _ _ _ _ _ _ _ _ _ _ _ _ _ _ _ _ _ _ _ _ _ _ _ _ _ _ _ _ _ _ _ _ _ _ _ _ _ _ _ _ _ _ _ _ _ _ _ _ _ _ _ _ _ _ _ _ _ _ _ _ _ _ _ _ _ _ _ _ _ _ _ _ _ _ _ _ _ _ _ _ _ _ _ _ _ _ _ _ _ _ _ _ _ _ _ _ _ _ _ _ _ _ _ _ _ _ _ _ _ _ _ _ _ _ _ _ _ _ _ _ _ _ _ _ _ _ _ _ _ _ _ _ _ _ _ _ _ _ _ _ _ _ _ _ _ _ _ _ _ _ _ _ _ _ _ _ _ _ _ _ _ _ _ _ _ _ _ _ _ _ _ _ _ _ _ _ _ _ _ _ _ _ _ _ _ _ _ _ _ _ _ _ _ _ _ _ _ _ _ _ _ _ _ _ _ _ _ _ _ _ _ _ _ _ _ _ _ _ _ _ _ _ _ _ _ _ _ _ _ _ _ _ _ _ _ _ _ _ _ _ _ _ _ _ _ _ _ _ _ _ _ _ _ _ _ _ hf
  have e0 := hf.t0
  have e1 := hf.t1
  have e3 := hf.t3
  have e12 := hf.t12
  have e13 := hf.t13
  have e14 := hf.t14
  have e15 := hf.t15
  have e16 := hf.t16
  have e17 := hf.t17
  have e18 := hf.t18
  have e20 := hf.t20
  have e26 := hf.t26
  clear hf
  change u0 = _ at e0; change u1 = _ at e1; change u3 = _ at e3; change u12 = _ at e12; change u13 = _ at e13; change u14 = _ at e14; change u15 = _ at e15; change u16 = _ at e16; change u17 = _ at e17; change u18 = _ at e18; change u20 = _ at e20; change u26 = _ at e26
  subst e0 e1 e3 e12 e13 e14 e15 e16 e17 e18 e20 e26
  conv => arg 2; whnf
  go_wp2
  exact ⟨⟨rfl, rfl, rfl, rfl, rfl, rfl, rfl, rfl, rfl, rfl, rfl, rfl⟩, rfl, rfl⟩

set_option maxRecDepth 100000 in
set_option maxHeartbeats 1000000 in
theorem f7 (hf : F36 a bd bg ba bb alo blo n m ca cb c) (hw : WI w0 w bd bg ba bb bf bk va vb vr vad alo blo n m mc A B F G) (h1 : n ≤ 5000) (h2 : m ≤ 5000) (h3 : mc ≤ 9000) (h4 : c ≤ mc) (hm : 0 ≤ (0 : Int) + m)
    (hQ : ∀ a' w' lo hi, FD a' bd bg ba bb alo blo n m ca cb c lo hi → Diags n m (0 : Int) c lo hi → WI w0 w' bd bg ba bb bf bk va vb vr vad alo blo n m mc A B F G → Q .normal a' w') : Code.wp Try.prog (nav [1, 1, 1, 1, 0, 1, 0, 0, 1, 0, 0, 0] (Try.f36.body.getD .skip)) Q a w := by
  have g0 := hw.g.g0
  have g1 := hw.g.g1
  have g2 := hw.g.g2
  have hcall : Hid (∀ w1, Calls Try.prog 39 #[.agg #[.int .i64 n, .int .i64 m, .int .i64 mc], .int .i64 (0 : Int), .int .i64 (c : Int)] w1 fun e w' => ∃ lo hi, e = .returned (.tuple #[.int .i64 lo, .int .i64 hi]) ∧ Diags n m (0 : Int) c lo hi ∧ Below w1.heap.size w1 w') := fun w1 =>
    diagonals_any n m mc (0 : Int) c w1 (by omega) (by omega) (by omega) (by omega) (by omega) (by omega) (by omega) (by omega) (by omega) (by omega) (by omega)
  have HW : Hid (WI w0 w bd bg ba bb bf bk va vb vr vad alo blo n m mc A B F G) := hw
  clear hw
  refine lit344 (p := fun a => F36 a bd bg ba bb alo blo n m ca cb c → Code.wp Try.prog (nav [1, 1, 1, 1, 0, 1, 0, 0, 1, 0, 0, 0] (Try.f36.body.getD .skip)) Q a w) ?_ a hf.sz hf.df hf
  clear hf
  intro u0 u1 _ u3 _ _ _ _ _ _ _ _ u12 u13 u14 u15 u16 u17 u18 _ _ _ _ _ _ _ _ _ _ _ _ _ _ _ _ _ _ _ _ _ _ _ _ _ _ _ _ _ _ _ _ _ _ _ _ _ _ _ _ _ _ _ _ _ _ _ _ _ _ _ _ _ _ _ _ _ _ _ _ _ _ _ _ _ _ _ _ _ _ _ _ _ _ _ _ _ _ _ _ _ _ _ _ _ _ _ _ _ _ _ _ _ _ _ _ _ _ _ _ _ _ _ _ _ _ _ _ _ _ _ _ _ _ _ _ _ _ _ _ _ _ _ _ _ _ _ _ _ _ _ _ _ _ _ _ _ _ _ _ _ _ _ _ _ _ _ _ _ _ _ _ _ _ _ _ _ _ _ _ _ _ _ _ _ _ _ _ _ _ _ _ _ _ _ _ _ _ _ _ _ _ _ _ _ _ _ _ _ _ _ _ _ _ _ _ _ _ _ _ _ _ _ _ _ _ _ _ _ _ _ _ _ _ _ _ _ _ _ _ _ _ _ _ _ _ _ _ _ _ _ _ _ _ _ _ _ _ _ _ _ _ _ _ _ _ _ _ _ _ _ _ _ _ _ _ _ _ _ _ _ _ _ _ _ _ _ _ _ _ _ _ _ _ _ _ _ _ _ _ _ _ _ _ _ _ _ _ _ _ _ _ _ _ _ _ _ _ _ _ _ _ _ _ _ _ _ _ _ _ _ _ _ _ _ _ _ _ _ _ _ _ _ _ _ hf
  have e0 := hf.t0
  have e1 := hf.t1
  have e3 := hf.t3
  have e12 := hf.t12
  have e13 := hf.t13
  have e14 := hf.t14
  have e15 := hf.t15
  have e16 := hf.t16
  have e17 := hf.t17
  have e18 := hf.t18
  clear hf
  change u0 = _ at e0; change u1 = _ at e1; change u3 = _ at e3; change u12 = _ at e12; change u13 = _ at e13; change u14 = _ at e14; change u15 = _ at e15; change u16 = _ at e16; change u17 = _ at e17; change u18 = _ at e18
  subst e0 e1 e3 e12 e13 e14 e15 e16 e17 e18
  conv => arg 2; whnf
  go_wp2_with (go_at_call 39; refine (hcall.out _).mono ?_; rintro e w1 ⟨lo, hi, rfl, hd, hb1⟩)
  exact hQ _ _ _ _ ⟨⟨rfl, rfl, rfl, rfl, rfl, rfl, rfl, rfl, rfl, rfl, rfl, rfl⟩, rfl, rfl⟩ (by assumption) (HW.out.below (by assumption))

set_option maxRecDepth 100000 in
set_option maxHeartbeats 1000000 in
theorem b28 (hf : F36 a bd bg ba bb alo blo n m ca cb c) (hw : WI w0 w bd bg ba bb bf bk va vb vr vad alo blo n m mc A B F G) (h1 : n ≤ 5000) (h2 : m ≤ 5000) (h3 : mc ≤ 9000) (h4 : c ≤ mc) (hm : 0 ≤ ((n : Int) - m) + m)
    (hQ : ∀ a' w' lo hi, FD a' bd bg ba bb alo blo n m ca cb c lo hi → Diags n m ((n : Int) - m) c lo hi → WI w0 w' bd bg ba bb bf bk va vb vr vad alo blo n m mc A B F G → Q .normal a' w') : Code.wp Try.prog (nav [1, 1, 1, 1, 0, 1, 0, 0, 1, 0, 0, 1, 1, 0] (Try.f36.body.getD .skip)) Q a w := by
  have g0 := hw.g.g0
  have g1 := hw.g.g1
  have g2 := hw.g.g2
  have hcall : Hid (∀ w1, Calls Try.prog 39 #[.agg #[.int .i64 n, .int .i64 m, .int .i64 mc], .int .i64 ((n : Int) - m), .int .i64 (c : Int)] w1 fun e w' => ∃ lo hi, e = .returned (.tuple #[.int .i64 lo, .int .i64 hi]) ∧ Diags n m ((n : Int) - m) c lo hi ∧ Below w1.heap.size w1 w') := fun w1 =>
    diagonals_any n m mc ((n : Int) - m) c w1 (by omega) (by omega) (by omega) (by omega) (by omega) (by omega) (by omega) (by omega) (by omega) (by omega) (by omega)
  have HW : Hid (WI w0 w bd bg ba bb bf bk va vb vr vad alo blo n m mc A B F G) := hw
  clear hw
  refine lit344 (p := fun a => F36 a bd bg ba bb alo blo n m ca cb c → Code.wp Try.prog (nav [1, 1, 1, 1, 0, 1, 0, 0, 1, 0, 0, 1, 1, 0] (Try.f36.body.getD .skip)) Q a w) ?_ a hf.sz hf.df hf
  clear hf
  intro u0 u1 _ u3 _ _ _ _ _ _ _ _ u12 u13 u14 u15 u16 u17 u18 _ _ _ _ _ _ _ _ _ _ _ _ _ _ _ _ _ _ _ _ _ _ _ _ _ _ _ _ _ _ _ _ _ _ _ _ _ _ _ _ _ _ _ _ _ _ _ _ _ _ _ _ _ _ _ _ _ _ _ _ _ _ _ _ _ _ _ _ _ _ _ _ _ _ _ _ _ _ _ _ _ _ _ _ _ _ _ _ _ _ _ _ _ _ _ _ _ _ _ _ _ _ _ _ _ _ _ _ _ _ _ _ _ _ _ _ _ _ _ _ _ _ _ _ _ _ _ _ _ _ _ _ _ _ _ _ _ _ _ _ _ _ _ _ _ _ _ _ _ _ _ _ _ _ _ _ _ _ _ _ _ _ _ _ _ _ _ _ _ _ _ _ _ _ _ _ _ _ _ _ _ _ _ _ _ _ _ _ _ _ _ _ _ _ _ _ _ _ _ _ _ _ _ _ _ _ _ _ _ _ _ _ _ _ _ _ _ _ _ _ _ _ _ _ _ _ _ _ _ _ _ _ _ _ _ _ _ _ _ _ _ _ _ _ _ _ _ _ _ _ _ _ _ _ _ _ _ _ _ _ _ _ _ _ _ _ _ _ _ _ _ _ _ _ _ _ _ _ _ _ _ _ _ _ _ _ _ _ _ _ _ _ _ _ _ _ _ _ _ _ _ _ _ _ _ _ _ _ _ _ _ _ _ _ _ _ _ _ _ _ _ _ _ _ _ hf
  have e0 := hf.t0
  have e1 := hf.t1
  have e3 := hf.t3
  have e12 := hf.t12
  have e13 := hf.t13
  have e14 := hf.t14
  have e15 := hf.t15
  have e16 := hf.t16
  have e17 := hf.t17
  have e18 := hf.t18
  clear hf
  change u0 = _ at e0; change u1 = _ at e1; change u3 = _ at e3; change u12 = _ at e12; change u13 = _ at e13; change u14 = _ at e14; change u15 = _ at e15; change u16 = _ at e16; change u17 = _ at e17; change u18 = _ at e18
  subst e0 e1 e3 e12 e13 e14 e15 e16 e17 e18
  conv => arg 2; whnf
  go_wp2_with (go_at_call 39; refine (hcall.out _).mono ?_; rintro e w1 ⟨lo, hi, rfl, hd, hb1⟩)
  exact hQ _ _ _ _ ⟨⟨rfl, rfl, rfl, rfl, rfl, rfl, rfl, rfl, rfl, rfl, rfl, rfl⟩, rfl, rfl⟩ (by assumption) (HW.out.below (by assumption))

set_option maxRecDepth 100000 in
set_option maxHeartbeats 1000000 in
theorem f8 (hf : FD a bd bg ba bb alo blo n m ca cb c lo hi) 
    (hQ : ∀ a', FK a' bd bg ba bb alo blo n m ca cb c hi lo → Q .normal a' w) : Code.wp Try.prog (nav [1, 1, 1, 1, 0, 1, 0, 0, 1, 0, 0, 1, 0, 0] (Try.f36.body.getD .skip)) Q a w := by
  refine lit344 (p := fun a => FD a bd bg ba bb alo blo n m ca cb c lo hi → Code.wp Try.prog (nav [1, 1, 1, 1, 0, 1, 0, 0, 1, 0, 0, 1, 0, 0] (Try.f36.body.getD .skip)) Q a w) ?_ a hf.sz hf.df hf
  clear hf
  intro u0 u1 _ u3 _ _ _ _ _ _ _ _ u12 u13 u14 u15 u16 u17 u18 u19 u20 _ _ _ _ _ _ _ _ _ _ _ _ _ _ _ _ _ _ _ _ _ _ _ _ _ _ _ _ _ _ _ _ _ _ _ _ _ _ _ _ _ _ _ _ _ _ _ _ _ _ _ _ _ _ _ _ _ _ _ _ _ _ _ _ _ _ _ _ _ _ _ _ _ _ _ _ _ _ _ _ _ _ _ _ _ _ _ _ _ _ _ _ _ _ _ _ _ _ _ _ _ _ _ _ _ _ _ _ _ _ _ _ _ _ _ _ _ _ _ _ _ _ _ _ _ _ _ _ _ _ _ _ _ _ _ _ _ _ _ _ _ _ _ _ _ _ _ _ _ _ _ _ _ _ _ _ _ _ _ _ _ _ _ _ _ _ _ _ _ _ _ _ _ _ _ _ _ _ _ _ _ _ _ _ _ _ _ _ _ _ _ _ _ _ _ _ _ _ _ _ _ _ _ _ _ _ _ _ _ _ _ _ _ _ _ _ _ _ _ _ _ _ _ _ _ _ _ _ _ _ _ _ _ _ _ _ _ _ _ _ _ _ _ _ _ _ _ _ _ _ _ _ _ _ _ _ _ _ _ _ _ _ _ _ _ _ _ _ _ _ _ _ _ _ _ _ _ _ _ _ _ _ _ _ _ _ _ _ _ _ _ _ _ _ _ _ _ _ _ _ _ _ _ _ _ _ _ _ _ _ _ _ _ _ _ _ _ _ _ _ _ _ _ hf
  have e0 := hf.t0
  have e1 := hf.t1
  have e3 := hf.t3
  have e12 := hf.t12
  have e13 := hf.t13
  have e14 := hf.t14
  have e15 := hf.t15
  have e16 := hf.t16
  have e17 := hf.t17
  have e18 := hf.t18
  have e19 := hf.t19
  have e20 := hf.t20
  clear hf
  change u0 = _ at e0; change u1 = _ at e1; change u3 = _ at e3; change u12 = _ at e12; change u13 = _ at e13; change u14 = _ at e14; change u15 = _ at e15; change u16 = _ at e16; change u17 = _ at e17; change u18 = _ at e18; change u19 = _ at e19; change u20 = _ at e20
  subst e0 e1 e3 e12 e13 e14 e15 e16 e17 e18 e19 e20
  conv => arg 2; whnf
  go_wp2
  exact ⟨⟨rfl, rfl, rfl, rfl, rfl, rfl, rfl, rfl, rfl, rfl, rfl, rfl⟩, rfl, rfl⟩

set_option maxRecDepth 100000 in
set_option maxHeartbeats 1000000 in
theorem b29 (hf : FD a bd bg ba bb alo blo n m ca cb c lo hi) 
    (hQ : ∀ a', BK a' bd bg ba bb alo blo n m ca cb c hi lo → Q .normal a' w) : Code.wp Try.prog (nav [1, 1, 1, 1, 0, 1, 0, 0, 1, 0, 0, 1, 1, 1, 0] (Try.f36.body.getD .skip)) Q a w := by
  refine lit344 (p := fun a => FD a bd bg ba bb alo blo n m ca cb c lo hi → Code.wp Try.prog (nav [1, 1, 1, 1, 0, 1, 0, 0, 1, 0, 0, 1, 1, 1, 0] (Try.f36.body.getD .skip)) Q a w) ?_ a hf.sz hf.df hf
  clear hf
  intro u0 u1 _ u3 _ _ _ _ _ _ _ _ u12 u13 u14 u15 u16 u17 u18 u19 u20 _ _ _ _ _ _ _ _ _ _ _ _ _ _ _ _ _ _ _ _ _ _ _ _ _ _ _ _ _ _ _ _ _ _ _ _ _ _ _ _ _ _ _ _ _ _ _ _ _ _ _ _ _ _ _ _ _ _ _ _ _ _ _ _ _ _ _ _ _ _ _ _ _ _ _ _ _ _ _ _ _ _ _ _ _ _ _ _ _ _ _ _ _ _ _ _ _ _ _ _ _ _ _ _ _ _ _ _ _ _ _ _ _ _ _ _ _ _ _ _ _ _ _ _ _ _ _ _ _ _ _ _ _ _ _ _ _ _ _ _ _ _ _ _ _ _ _ _ _ _ _ _ _ _ _ _ _ _ _ _ _ _ _ _ _ _ _ _ _ _ _ _ _ _ _ _ _ _ _ _ _ _ _ _ _ _ _ _ _ _ _ _ _ _ _ _ _ _ _ _ _ _ _ _ _ _ _ _ _ _ _ _ _ _ _ _ _ _ _ _ _ _ _ _ _ _ _ _ _ _ _ _ _ _ _ _ _ _ _ _ _ _ _ _ _ _ _ _ _ _ _ _ _ _ _ _ _ _ _ _ _ _ _ _ _ _ _ _ _ _ _ _ _ _ _ _ _ _ _ _ _ _ _ _ _ _ _ _ _ _ _ _ _ _ _ _ _ _ _ _ _ _ _ _ _ _ _ _ _ _ _ _ _ _ _ _ _ _ _ _ _ _ _ hf
  have e0 := hf.t0
  have e1 := hf.t1
  have e3 := hf.t3
  have e12 := hf.t12
  have e13 := hf.t13
  have e14 := hf.t14
  have e15 := hf.t15
  have e16 := hf.t16
  have e17 := hf.t17
  have e18 := hf.t18
  have e19 := hf.t19
  have e20 := hf.t20
  clear hf
  change u0 = _ at e0; change u1 = _ at e1; change u3 = _ at e3; change u12 = _ at e12; change u13 = _ at e13; change u14 = _ at e14; change u15 = _ at e15; change u16 = _ at e16; change u17 = _ at e17; change u18 = _ at e18; change u19 = _ at e19; change u20 = _ at e20
  subst e0 e1 e3 e12 e13 e14 e15 e16 e17 e18 e19 e20
  conv => arg 2; whnf
  go_wp2
  exact ⟨⟨rfl, rfl, rfl, rfl, rfl, rfl, rfl, rfl, rfl, rfl, rfl, rfl⟩, rfl, rfl⟩

set_option maxRecDepth 100000 in
set_option maxHeartbeats 1000000 in
theorem o5_in (hf : F36 a bd bg ba bb alo blo n m ca cb c) (hw : WI w0 w bd bg ba bb bf bk va vb vr vad alo blo n m mc A B F G) (h : c ≤ mc)
    (hQ : ∀ a', F36 a' bd bg ba bb alo blo n m ca cb c → Q .normal a' w) : Code.wp Try.prog (nav [1, 1, 1, 1, 0, 1, 0, 0, 0] (Try.f36.body.getD .skip)) Q a w := by
  have c6 := hw.d.c6
  have h' : (c : Int) ≤ (mc : Int) := by omega
  clear hw
  refine lit344 (p := fun a => F36 a bd bg ba bb alo blo n m ca cb c → Code.wp Try.prog (nav [1, 1, 1, 1, 0, 1, 0, 0, 0] (Try.f36.body.getD .skip)) Q a w) ?_ a hf.sz hf.df hf
  clear hf
  intro u0 u1 _ u3 _ _ _ _ _ _ _ _ u12 u13 u14 u15 u16 u17 u18 _ _ _ _ _ _ _ _ _ _ _ _ _ _ _ _ _ _ _ _ _ _ _ _ _ _ _ _ _ _ _ _ _ _ _ _ _ _ _ _ _ _ _ _ _ _ _ _ _ _ _ _ _ _ _ _ _ _ _ _ _ _ _ _ _ _ _ _ _ _ _ _ _ _ _ _ _ _ _ _ _ _ _ _ _ _ _ _ _ _ _ _ _ _ _ _ _ _ _ _ _ _ _ _ _ _ _ _ _ _ _ _ _ _ _ _ _ _ _ _ _ _ _ _ _ _ _ _ _ _ _ _ _ _ _ _ _ _ _ _ _ _ _ _ _ _ _ _ _ _ _ _ _ _ _ _ _ _ _ _ _ _ _ _ _ _ _ _ _ _ _ _ _ _ _ _ _ _ _ _ _ _ _ _ _ _ _ _ _ _ _ _ _ _ _ _ _ _ _ _ _ _ _ _ _ _ _ _ _ _ _ _ _ _ _ _ _ _ _ _ _ _ _ _ _ _ _ _ _ _ _ _ _ _ _ _ _ _ _ _ _ _ _ _ _ _ _ _ _ _ _ _ _ _ _ _ _ _ _ _ _ _ _ _ _ _ _ _ _ _ _ _ _ _ _ _ _ _ _ _ _ _ _ _ _ _ _ _ _ _ _ _ _ _ _ _ _ _ _ _ _ _ _ _ _ _ _ _ _ _ _ _ _ _ _ _ _ _ _ _ _ _ _ _ _ hf
  have e0 := hf.t0
  have e1 := hf.t1
  have e3 := hf.t3
  have e12 := hf.t12
  have e13 := hf.t13
  have e14 := hf.t14
  have e15 := hf.t15
  have e16 := hf.t16
  have e17 := hf.t17
  have e18 := hf.t18
  clear hf
  change u0 = _ at e0; change u1 = _ at e1; change u3 = _ at e3; change u12 = _ at e12; change u13 = _ at e13; change u14 = _ at e14; change u15 = _ at e15; change u16 = _ at e16; change u17 = _ at e17; change u18 = _ at e18
  subst e0 e1 e3 e12 e13 e14 e15 e16 e17 e18
  conv => arg 2; whnf
  go_wp2
  exact ⟨rfl, rfl, rfl, rfl, rfl, rfl, rfl, rfl, rfl, rfl, rfl, rfl⟩

set_option maxRecDepth 100000 in
set_option maxHeartbeats 1000000 in
theorem o5_out (hf : F36 a bd bg ba bb alo blo n m ca cb c) (hw : WI w0 w bd bg ba bb bf bk va vb vr vad alo blo n m mc A B F G) (h : mc < c)
    (hQ : ∀ a', F36 a' bd bg ba bb alo blo n m ca cb c → Q (.exit 0) a' w) : Code.wp Try.prog (nav [1, 1, 1, 1, 0, 1, 0, 0, 0] (Try.f36.body.getD .skip)) Q a w := by
  have c6 := hw.d.c6
  have h' : (mc : Int) < (c : Int) := by omega
  clear hw
  refine lit344 (p := fun a => F36 a bd bg ba bb alo blo n m ca cb c → Code.wp Try.prog (nav [1, 1, 1, 1, 0, 1, 0, 0, 0] (Try.f36.body.getD .skip)) Q a w) ?_ a hf.sz hf.df hf
  clear hf
  intro u0 u1 _ u3 _ _ _ _ _ _ _ _ u12 u13 u14 u15 u16 u17 u18 _ _ _ _ _ _ _ _ _ _ _ _ _ _ _ _ _ _ _ _ _ _ _ _ _ _ _ _ _ _ _ _ _ _ _ _ _ _ _ _ _ _ _ _ _ _ _ _ _ _ _ _ _ _ _ _ _ _ _ _ _ _ _ _ _ _ _ _ _ _ _ _ _ _ _ _ _ _ _ _ _ _ _ _ _ _ _ _ _ _ _ _ _ _ _ _ _ _ _ _ _ _ _ _ _ _ _ _ _ _ _ _ _ _ _ _ _ _ _ _ _ _ _ _ _ _ _ _ _ _ _ _ _ _ _ _ _ _ _ _ _ _ _ _ _ _ _ _ _ _ _ _ _ _ _ _ _ _ _ _ _ _ _ _ _ _ _ _ _ _ _ _ _ _ _ _ _ _ _ _ _ _ _ _ _ _ _ _ _ _ _ _ _ _ _ _ _ _ _ _ _ _ _ _ _ _ _ _ _ _ _ _ _ _ _ _ _ _ _ _ _ _ _ _ _ _ _ _ _ _ _ _ _ _ _ _ _ _ _ _ _ _ _ _ _ _ _ _ _ _ _ _ _ _ _ _ _ _ _ _ _ _ _ _ _ _ _ _ _ _ _ _ _ _ _ _ _ _ _ _ _ _ _ _ _ _ _ _ _ _ _ _ _ _ _ _ _ _ _ _ _ _ _ _ _ _ _ _ _ _ _ _ _ _ _ _ _ _ _ _ _ _ _ _ _ hf
  have e0 := hf.t0
  have e1 := hf.t1
  have e3 := hf.t3
  have e12 := hf.t12
  have e13 := hf.t13
  have e14 := hf.t14
  have e15 := hf.t15
  have e16 := hf.t16
  have e17 := hf.t17
  have e18 := hf.t18
  clear hf
  change u0 = _ at e0; change u1 = _ at e1; change u3 = _ at e3; change u12 = _ at e12; change u13 = _ at e13; change u14 = _ at e14; change u15 = _ at e15; change u16 = _ at e16; change u17 = _ at e17; change u18 = _ at e18
  subst e0 e1 e3 e12 e13 e14 e15 e16 e17 e18
  conv => arg 2; whnf
  go_wp2
  exact ⟨rfl, rfl, rfl, rfl, rfl, rfl, rfl, rfl, rfl, rfl, rfl, rfl⟩

set_option maxRecDepth 100000 in
set_option maxHeartbeats 1000000 in
theorem o6 (hf : F36 a bd bg ba bb alo blo n m ca cb c) (h4 : c ≤ 9000)
    (hQ : ∀ a', F36 a' bd bg ba bb alo blo n m ca cb (c + 1) → Q .normal a' w) : Code.wp Try.prog (nav [1, 1, 1, 1, 0, 1, 0, 0, 1, 1] (Try.f36.body.getD .skip)) Q a w := by
  refine lit344 (p := fun a => F36 a bd bg ba bb alo blo n m ca cb c → Code.wp Try.prog (nav [1, 1, 1, 1, 0, 1, 0, 0, 1, 1] (Try.f36.body.getD .skip)) Q a w) ?_ a hf.sz hf.df hf
  clear hf
  intro u0 u1 _ u3 _ _ _ _ _ _ _ _ u12 u13 u14 u15 u16 u17 u18 _ _ _ _ _ _ _ _ _ _ _ _ _ _ _ _ _ _ _ _ _ _ _ _ _ _ _ _ _ _ _ _ _ _ _ _ _ _ _ _ _ _ _ _ _ _ _ _ _ _ _ _ _ _ _ _ _ _ _ _ _ _ _ _ _ _ _ _ _ _ _ _ _ _ _ _ _ _ _ _ _ _ _ _ _ _ _ _ _ _ _ _ _ _ _ _ _ _ _ _ _ _ _ _ _ _ _ _ _ _ _ _ _ _ _ _ _ _ _ _ _ _ _ _ _ _ _ _ _ _ _ _ _ _ _ _ _ _ _ _ _ _ _ _ _ _ _ _ _ _ _ _ _ _ _ _ _ _ _ _ _ _ _ _ _ _ _ _ _ _ _ _ _ _ _ _ _ _ _ _ _ _ _ _ _ _ _ _ _ _ _ _ _ _ _ _ _ _ _ _ _ _ _ _ _ _ _ _ _ _ _ _ _ _ _ _ _ _ _ _ _ _ _ _ _ _ _ _ _ _ _ _ _ _ _ _ _ _ _ _ _ _ _ _ _ _ _ _ _ _ _ _ _ _ _ _ _ _ _ _ _ _ _ _ _ _ _ _ _ _ _ _ _ _ _ _ _ _ _ _ _ _ _ _ _ _ _ _ _ _ _ _ _ _ _ _ _ _ _ _ _ _ _ _ _ _ _ _ _ _ _ _ _ _ _ _ _ _ _ _ _ _ _ _ _ hf
  have e0 := hf.t0
  have e1 := hf.t1
  have e3 := hf.t3
  have e12 := hf.t12
  have e13 := hf.t13
  have e14 := hf.t14
  have e15 := hf.t15
  have e16 := hf.t16
  have e17 := hf.t17
  have e18 := hf.t18
  clear hf
  change u0 = _ at e0; change u1 = _ at e1; change u3 = _ at e3; change u12 = _ at e12; change u13 = _ at e13; change u14 = _ at e14; change u15 = _ at e15; change u16 = _ at e16; change u17 = _ at e17; change u18 = _ at e18
  subst e0 e1 e3 e12 e13 e14 e15 e16 e17 e18
  conv => arg 2; whnf
  go_wp2
  exact ⟨rfl, rfl, rfl, rfl, rfl, rfl, rfl, rfl, rfl, rfl, rfl, rfl⟩

end
end Go.Proofs.Qxb6600330a
