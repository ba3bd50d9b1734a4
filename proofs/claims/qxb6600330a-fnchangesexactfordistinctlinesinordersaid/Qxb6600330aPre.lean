import Derived.Test.Qxb6600330aLoops
import Derived.Test.Qxb6600330aFurth2
namespace Go.Proofs.Qxb6600330a
open Go.RowKit
set_option linter.unusedVariables false

structure G0 (a : Act) (bd alo ahi blo bhi : Nat) : Prop where
  sz : a.tmps.size = 344
  df : a.defers = []
  t0 : a.tmps.getD 0 undef = .pointer (some ⟨bd, 0, none⟩)
  t1 : a.tmps.getD 1 undef = .int .i64 alo
  t2 : a.tmps.getD 2 undef = .int .i64 ahi
  t3 : a.tmps.getD 3 undef = .int .i64 blo
  t4 : a.tmps.getD 4 undef = .int .i64 bhi
structure G1 (a : Act) (bd alo ahi blo bhi ba bb ca cb : Nat) : Prop extends G0 a bd alo ahi blo bhi where
  t12 : a.tmps.getD 12 undef = .slice (some ⟨ba, alo, none⟩) (ahi - alo) ca
  t13 : a.tmps.getD 13 undef = .slice (some ⟨bb, blo, none⟩) (bhi - blo) cb
structure G2 (a : Act) (bd alo ahi blo bhi ba bb ca cb bg : Nat) : Prop extends G1 a bd alo ahi blo bhi ba bb ca cb where
  t14 : a.tmps.getD 14 undef = .pointer (some ⟨bg, 0, none⟩)
structure G3 (a : Act) (bd alo ahi blo bhi ba bb ca cb bg : Nat) : Prop extends G2 a bd alo ahi blo bhi ba bb ca cb bg where
  t15 : a.tmps.getD 15 undef = .int .i64 ((ahi - alo : Nat) : Int)
  t16 : a.tmps.getD 16 undef = .int .i64 ((bhi - blo : Nat) : Int)
  t17 : a.tmps.getD 17 undef = .int .i64 (((ahi - alo : Nat) : Int) - ((bhi - blo : Nat) : Int))
section
variable {Q : Exit → Act → World → Prop} {a : Act} {w0 w : World} {bd bg ba bb bf bk : Nat} {va vb vr vad : Value} {alo ahi blo bhi n m ca cb mc N M : Nat} {A B F G : Nat → Int} {hi k x : Int}
set_option maxRecDepth 100000 in
set_option maxHeartbeats 1000000 in
theorem p0 (hf : G0 a bd alo ahi blo bhi) (hQ : ∀ a', G0 a' bd alo ahi blo bhi → Q .normal a' w) : Code.wp Try.prog (nav [0] (Try.f36.body.getD .skip)) Q a w := by
  refine lit344 (p := fun a => G0 a bd alo ahi blo bhi → Code.wp Try.prog (nav [0] (Try.f36.body.getD .skip)) Q a w) ?_ a hf.sz hf.df hf
  clear hf
  intro u0 u1 u2 u3 u4 _ _ _ _ _ _ _ _ _ _ _ _ _ _ _ _ _ _ _ _ _ _ _ _ _ _ _ _ _ _ _ _ _ _ _ _ _ _ _ _ _ _ _ _ _ _ _ _ _ _ _ _ _ _ _ _ _ _ _ _ _ _ _ _ _ _ _ _ _ _ _ _ _ _ _ _ _ _ _ _ _ _ _ _ _ _ _ _ _ _ _ _ _ _ _ _ _ _ _ _ _ _ _ _ _ _ _ _ _ _ _ _ _ _ _ _ _ _ _ _ _ _ _ _ _ _ _ _ _ _ _ _ _ _ _ _ _ _ _ _ _ _ _ _ _ _ _ _ _ _ _ _ _ _ _ _ _ _ _ _ _ _ _ _ _ _ _ _ _ _ _ _ _ _ _ _ _ _ _ _ _ _ _ _ _ _ _ _ _ _ _ _ _ _ _ _ _ _ _ _ _ _ _ _ _ _ _ _ _ _ _ _ _ _ _ _ _ _ _ _ _ _ _ _ _ _ _ _ _ _ _ _ _ _ _ _ _ _ _ _ _ _ _ _ _ _ _ _ _ _ _ _ _ _ _ _ _ _ _ _ _ _ _ _ _ _ _ _ _ _ _ _ _ _ _ _ _ _ _ _ _ _ _ _ _ _ _ _ _ _ _ _ _ _ _ _ _ _ _ _ _ _ _ _ _ _ _ _ _ _ _ _ _ _ _ _ _ _ _ _ _ _ _ _ _ _ _ _ _ _ _ _ _ _ _ _ _ _ _ hf
  have e0 := hf.t0
  have e1 := hf.t1
  have e2 := hf.t2
  have e3 := hf.t3
  have e4 := hf.t4
  clear hf
  change u0 = _ at e0; change u1 = _ at e1; change u2 = _ at e2; change u3 = _ at e3; change u4 = _ at e4
  subst e0 e1 e2 e3 e4
  conv => arg 2; whnf
  go_wp2
  exact ⟨rfl, rfl, rfl, rfl, rfl, rfl, rfl⟩

set_option maxRecDepth 100000 in
set_option maxHeartbeats 1000000 in
theorem p1 (hf : G0 a bd alo ahi blo bhi) (c0 : w.cell? ⟨bd, 0, none⟩ = some (.slice (some ⟨ba, 0, none⟩) N N)) (c1 : w.cell? ⟨bd, 1, none⟩ = some (.slice (some ⟨bb, 0, none⟩) M M)) (hN : N ≤ 4096) (hM : M ≤ 4096) (ha : alo < ahi) (ha' : ahi ≤ N) (hb : blo < bhi) (hb' : bhi ≤ M)
    (hQ : ∀ a' w', G1 a' bd alo ahi blo bhi ba bb (N - alo) (M - blo) → Below w.heap.size w w' → Q .normal a' w') : Code.wp Try.prog (nav [1, 0] (Try.f36.body.getD .skip)) Q a w := by
  have ne := ext_nonempty w
  have e0 := fun y => wext_cell w y c0
  have e1 := fun y => wext_cell w y c1
  clear c0 c1
  refine lit344 (p := fun a => G0 a bd alo ahi blo bhi → Code.wp Try.prog (nav [1, 0] (Try.f36.body.getD .skip)) Q a w) ?_ a hf.sz hf.df hf
  clear hf
  intro u0 u1 u2 u3 u4 _ _ _ _ _ _ _ _ _ _ _ _ _ _ _ _ _ _ _ _ _ _ _ _ _ _ _ _ _ _ _ _ _ _ _ _ _ _ _ _ _ _ _ _ _ _ _ _ _ _ _ _ _ _ _ _ _ _ _ _ _ _ _ _ _ _ _ _ _ _ _ _ _ _ _ _ _ _ _ _ _ _ _ _ _ _ _ _ _ _ _ _ _ _ _ _ _ _ _ _ _ _ _ _ _ _ _ _ _ _ _ _ _ _ _ _ _ _ _ _ _ _ _ _ _ _ _ _ _ _ _ _ _ _ _ _ _ _ _ _ _ _ _ _ _ _ _ _ _ _ _ _ _ _ _ _ _ _ _ _ _ _ _ _ _ _ _ _ _ _ _ _ _ _ _ _ _ _ _ _ _ _ _ _ _ _ _ _ _ _ _ _ _ _ _ _ _ _ _ _ _ _ _ _ _ _ _ _ _ _ _ _ _ _ _ _ _ _ _ _ _ _ _ _ _ _ _ _ _ _ _ _ _ _ _ _ _ _ _ _ _ _ _ _ _ _ _ _ _ _ _ _ _ _ _ _ _ _ _ _ _ _ _ _ _ _ _ _ _ _ _ _ _ _ _ _ _ _ _ _ _ _ _ _ _ _ _ _ _ _ _ _ _ _ _ _ _ _ _ _ _ _ _ _ _ _ _ _ _ _ _ _ _ _ _ _ _ _ _ _ _ _ _ _ _ _ _ _ _ _ _ _ _ _ _ _ _ _ _ hf
  have z0 := hf.t0
  have z1 := hf.t1
  have z2 := hf.t2
  have z3 := hf.t3
  have z4 := hf.t4
  clear hf
  change u0 = _ at z0; change u1 = _ at z1; change u2 = _ at z2; change u3 = _ at z3; change u4 = _ at z4
  subst z0 z1 z2 z3 z4
  conv => arg 2; whnf
  refine wp_region_ext (by kernel_rfl) (by kernel_rfl) ?_
  repeat (go_big_quiet_step (fail))
  refine wpQuiet_nil ?_
  intro w1 hb1
  exact hQ _ _ ⟨⟨rfl, rfl, rfl, rfl, rfl, rfl, rfl⟩, rfl, rfl⟩ hb1

set_option maxRecDepth 100000 in
set_option maxHeartbeats 1000000 in
theorem p2 (hf : G1 a bd alo ahi blo bhi ba bb ca cb) (c6 : w.cell? ⟨bd, 6, none⟩ = some (.int .i64 mc)) (hN : ahi ≤ 4096) (hM : bhi ≤ 4096) (ha : alo < ahi) (hb : blo < bhi)
    (hQ : ∀ a', G2 a' bd alo ahi blo bhi ba bb ca cb w.heap.size → Q .normal a' (w.alloc (.cells #[.int .i64 ((ahi : Int) - alo), .int .i64 ((bhi : Int) - blo), .int .i64 mc] 58))) : Code.wp Try.prog (nav [1, 1, 0] (Try.f36.body.getD .skip)) Q a w := by
  refine lit344 (p := fun a => G1 a bd alo ahi blo bhi ba bb ca cb → Code.wp Try.prog (nav [1, 1, 0] (Try.f36.body.getD .skip)) Q a w) ?_ a hf.sz hf.df hf
  clear hf
  intro u0 u1 u2 u3 u4 _ _ _ _ _ _ _ u12 u13 _ _ _ _ _ _ _ _ _ _ _ _ _ _ _ _ _ _ _ _ _ _ _ _ _ _ _ _ _ _ _ _ _ _ _ _ _ _ _ _ _ _ _ _ _ _ _ _ _ _ _ _ _ _ _ _ _ _ _ _ _ _ _ _ _ _ _ _ _ _ _ _ _ _ _ _ _ _ _ _ _ _ _ _ _ _ _ _ _ _ _ _ _ _ _ _ _ _ _ _ _ _ _ _ _ _ _ _ _ _ _ _ _ _ _ _ _ _ _ _ _ _ _ _ _ _ _ _ _ _ _ _ _ _ _ _ _ _ _ _ _ _ _ _ _ _ _ _ _ _ _ _ _ _ _ _ _ _ _ _ _ _ _ _ _ _ _ _ _ _ _ _ _ _ _ _ _ _ _ _ _ _ _ _ _ _ _ _ _ _ _ _ _ _ _ _ _ _ _ _ _ _ _ _ _ _ _ _ _ _ _ _ _ _ _ _ _ _ _ _ _ _ _ _ _ _ _ _ _ _ _ _ _ _ _ _ _ _ _ _ _ _ _ _ _ _ _ _ _ _ _ _ _ _ _ _ _ _ _ _ _ _ _ _ _ _ _ _ _ _ _ _ _ _ _ _ _ _ _ _ _ _ _ _ _ _ _ _ _ _ _ _ _ _ _ _ _ _ _ _ _ _ _ _ _ _ _ _ _ _ _ _ _ _ _ _ _ _ _ _ _ _ _ _ _ _ _ _ _ _ hf
  have e0 := hf.t0
  have e1 := hf.t1
  have e2 := hf.t2
  have e3 := hf.t3
  have e4 := hf.t4
  have e12 := hf.t12
  have e13 := hf.t13
  clear hf
  change u0 = _ at e0; change u1 = _ at e1; change u2 = _ at e2; change u3 = _ at e3; change u4 = _ at e4; change u12 = _ at e12; change u13 = _ at e13
  subst e0 e1 e2 e3 e4 e12 e13
  conv => arg 2; whnf
  go_wp2
  exact ⟨⟨⟨rfl, rfl, rfl, rfl, rfl, rfl, rfl⟩, rfl, rfl⟩, rfl⟩

set_option maxRecDepth 100000 in
set_option maxHeartbeats 1000000 in
theorem p3 (hf : G2 a bd alo ahi blo bhi ba bb ca cb bg) (g0 : w.cell? ⟨bg, 0, none⟩ = some (.int .i64 ((ahi - alo : Nat) : Int))) (g1 : w.cell? ⟨bg, 1, none⟩ = some (.int .i64 ((bhi - blo : Nat) : Int))) (hN : ahi ≤ 4096) (hM : bhi ≤ 4096)
    (hQ : ∀ a' w', G3 a' bd alo ahi blo bhi ba bb ca cb bg → Below w.heap.size w w' → Q .normal a' w') : Code.wp Try.prog (nav [1, 1, 1, 0] (Try.f36.body.getD .skip)) Q a w := by
  obtain ⟨n, en⟩ : ∃ n : Nat, n = ahi - alo := ⟨_, rfl⟩
  obtain ⟨m, em⟩ : ∃ m : Nat, m = bhi - blo := ⟨_, rfl⟩
  have hn : n ≤ 4096 := by omega
  have hm : m ≤ 4096 := by omega
  have hQ' : ∀ a' w', a'.tmps.size = 344 → a'.defers = [] → a'.tmps.getD 0 undef = .pointer (some ⟨bd, 0, none⟩) → a'.tmps.getD 1 undef = .int .i64 alo → a'.tmps.getD 2 undef = .int .i64 ahi → a'.tmps.getD 3 undef = .int .i64 blo → a'.tmps.getD 4 undef = .int .i64 bhi → a'.tmps.getD 12 undef = .slice (some ⟨ba, alo, none⟩) n ca → a'.tmps.getD 13 undef = .slice (some ⟨bb, blo, none⟩) m cb → a'.tmps.getD 14 undef = .pointer (some ⟨bg, 0, none⟩) → a'.tmps.getD 15 undef = .int .i64 (n : Int) → a'.tmps.getD 16 undef = .int .i64 (m : Int) → a'.tmps.getD 17 undef = .int .i64 ((n : Int) - m) → Below w.heap.size w w' → Q .normal a' w' := by
    intro a' w' x1 x2 x3 x4 x5 x6 x7 x8 x9 x10 x11 x12 x13 hb
    rw [en] at x8 x11 x13
    rw [em] at x9 x12 x13
    exact hQ a' w' ⟨⟨⟨⟨x1, x2, x3, x4, x5, x6, x7⟩, x8, x9⟩, x10⟩, x11, x12, x13⟩ hb
  have HQ := hQ'
  clear hQ hQ'
  rw [← en] at g0
  rw [← em] at g1
  have k0 := fun y => wext_cell w y g0
  have k1 := fun y => wext_cell w y g1
  have ne := ext_nonempty w
  refine lit344 (p := fun a => G2 a bd alo ahi blo bhi ba bb ca cb bg → Code.wp Try.prog (nav [1, 1, 1, 0] (Try.f36.body.getD .skip)) Q a w) ?_ a hf.sz hf.df hf
  clear hf
  intro u0 u1 u2 u3 u4 _ _ _ _ _ _ _ u12 u13 u14 _ _ _ _ _ _ _ _ _ _ _ _ _ _ _ _ _ _ _ _ _ _ _ _ _ _ _ _ _ _ _ _ _ _ _ _ _ _ _ _ _ _ _ _ _ _ _ _ _ _ _ _ _ _ _ _ _ _ _ _ _ _ _ _ _ _ _ _ _ _ _ _ _ _ _ _ _ _ _ _ _ _ _ _ _ _ _ _ _ _ _ _ _ _ _ _ _ _ _ _ _ _ _ _ _ _ _ _ _ _ _ _ _ _ _ _ _ _ _ _ _ _ _ _ _ _ _ _ _ _ _ _ _ _ _ _ _ _ _ _ _ _ _ _ _ _ _ _ _ _ _ _ _ _ _ _ _ _ _ _ _ _ _ _ _ _ _ _ _ _ _ _ _ _ _ _ _ _ _ _ _ _ _ _ _ _ _ _ _ _ _ _ _ _ _ _ _ _ _ _ _ _ _ _ _ _ _ _ _ _ _ _ _ _ _ _ _ _ _ _ _ _ _ _ _ _ _ _ _ _ _ _ _ _ _ _ _ _ _ _ _ _ _ _ _ _ _ _ _ _ _ _ _ _ _ _ _ _ _ _ _ _ _ _ _ _ _ _ _ _ _ _ _ _ _ _ _ _ _ _ _ _ _ _ _ _ _ _ _ _ _ _ _ _ _ _ _ _ _ _ _ _ _ _ _ _ _ _ _ _ _ _ _ _ _ _ _ _ _ _ _ _ _ _ _ _ _ _ _ hf
  have e0 := hf.t0
  have e1 := hf.t1
  have e2 := hf.t2
  have e3 := hf.t3
  have e4 := hf.t4
  have e12 := hf.t12
  have e13 := hf.t13
  have e14 := hf.t14
  clear hf
  change u0 = _ at e0; change u1 = _ at e1; change u2 = _ at e2; change u3 = _ at e3; change u4 = _ at e4; change u12 = _ at e12; change u13 = _ at e13; change u14 = _ at e14
  subst e0 e1 e2 e3 e4 e12 e13 e14
  conv => arg 2; whnf
  rw [← en, ← em]
  clear en em g0 g1
  refine wp_region_ext (by kernel_rfl) (by kernel_rfl) ?_
  repeat (go_big_quiet_step (fail))
  refine wpQuiet_nil ?_
  intro w1 hb1
  exact HQ _ _ rfl rfl rfl rfl rfl rfl rfl rfl rfl rfl rfl rfl rfl hb1

set_option maxRecDepth 100000 in
set_option maxHeartbeats 1000000 in
theorem p4 (hf : G3 a bd alo ahi blo bhi ba bb ca cb bg) (hQ : ∀ a', F36 a' bd bg ba bb alo blo (ahi - alo) (bhi - blo) ca cb 0 → Q .normal a' w) : Code.wp Try.prog (nav [1, 1, 1, 1, 0, 0] (Try.f36.body.getD .skip)) Q a w := by
  refine lit344 (p := fun a => G3 a bd alo ahi blo bhi ba bb ca cb bg → Code.wp Try.prog (nav [1, 1, 1, 1, 0, 0] (Try.f36.body.getD .skip)) Q a w) ?_ a hf.sz hf.df hf
  clear hf
  intro u0 u1 u2 u3 u4 _ _ _ _ _ _ _ u12 u13 u14 u15 u16 u17 _ _ _ _ _ _ _ _ _ _ _ _ _ _ _ _ _ _ _ _ _ _ _ _ _ _ _ _ _ _ _ _ _ _ _ _ _ _ _ _ _ _ _ _ _ _ _ _ _ _ _ _ _ _ _ _ _ _ _ _ _ _ _ _ _ _ _ _ _ _ _ _ _ _ _ _ _ _ _ _ _ _ _ _ _ _ _ _ _ _ _ _ _ _ _ _ _ _ _ _ _ _ _ _ _ _ _ _ _ _ _ _ _ _ _ _ _ _ _ _ _ _ _ _ _ _ _ _ _ _ _ _ _ _ _ _ _ _ _ _ _ _ _ _ _ _ _ _ _ _ _ _ _ _ _ _ _ _ _ _ _ _ _ _ _ _ _ _ _ _ _ _ _ _ _ _ _ _ _ _ _ _ _ _ _ _ _ _ _ _ _ _ _ _ _ _ _ _ _ _ _ _ _ _ _ _ _ _ _ _ _ _ _ _ _ _ _ _ _ _ _ _ _ _ _ _ _ _ _ _ _ _ _ _ _ _ _ _ _ _ _ _ _ _ _ _ _ _ _ _ _ _ _ _ _ _ _ _ _ _ _ _ _ _ _ _ _ _ _ _ _ _ _ _ _ _ _ _ _ _ _ _ _ _ _ _ _ _ _ _ _ _ _ _ _ _ _ _ _ _ _ _ _ _ _ _ _ _ _ _ _ _ _ _ _ _ _ _ _ _ _ _ _ _ _ _ hf
  have e0 := hf.t0
  have e1 := hf.t1
  have e2 := hf.t2
  have e3 := hf.t3
  have e4 := hf.t4
  have e12 := hf.t12
  have e13 := hf.t13
  have e14 := hf.t14
  have e15 := hf.t15
  have e16 := hf.t16
  have e17 := hf.t17
  clear hf
  change u0 = _ at e0; change u1 = _ at e1; change u2 = _ at e2; change u3 = _ at e3; change u4 = _ at e4; change u12 = _ at e12; change u13 = _ at e13; change u14 = _ at e14; change u15 = _ at e15; change u16 = _ at e16; change u17 = _ at e17
  subst e0 e1 e2 e3 e4 e12 e13 e14 e15 e16 e17
  conv => arg 2; whnf
  go_wp2
  exact ⟨rfl, rfl, rfl, rfl, rfl, rfl, rfl, rfl, rfl, rfl, rfl, rfl⟩

set_option maxRecDepth 100000 in
set_option maxHeartbeats 1000000 in
/-- the searches have not met: the furthest point -/
theorem p49 (hf : F36 a bd bg ba bb alo blo n m ca cb (mc + 1)) (hw : WI w0 w bd bg ba bb bf bk va vb vr vad alo blo n m mc A B F G) (h1 : n ≤ 5000) (h2 : m ≤ 5000) (h3 : mc ≤ 8500) (hmc : 1 ≤ mc) (hal : alo ≤ 5000) (hbl : blo ≤ 5000) (hF : Plain.FOk (tab A B) n m mc mc F) (hG : Plain.BOk (tab A B) n m mc mc G) (hfew : 2 * mc + 1 ≤ Plain.fewest (tab A B) n m)
    (hQ : ∀ a' w' (X Y : Nat), FRet a' ((alo : Int) + X) ((blo : Int) + Y) → WI w0 w' bd bg ba bb bf bk va vb vr vad alo blo n m mc A B F G → Plain.Inside (tab A B) n m mc X Y → Q .ret a' w') : Code.wp Try.prog (nav [1, 1, 1, 1, 1] (Try.f36.body.getD .skip)) Q a w := by
  have g0 := hw.g.g0
  have g1 := hw.g.g1
  have g2 := hw.g.g2
  have hcall : Hid (Calls Try.prog 42 #[.pointer (some ⟨bd, 0, none⟩), .agg #[.int .i64 n, .int .i64 m, .int .i64 mc]] w fun e w' => ∃ X Y : Nat, e = .returned (.tuple #[.int .i64 (X : Int), .int .i64 (Y : Int)]) ∧ Plain.Inside (tab A B) n m mc X Y ∧ Below w.heap.size w w') :=
    furthest_any bd bf bk n m mc va vb vr vad A B F G w hw.d hw.t h1 h2 (by omega) hmc hF hG hfew
  have HW : Hid (WI w0 w bd bg ba bb bf bk va vb vr vad alo blo n m mc A B F G) := hw
  clear hw hF hG
  refine lit344 (p := fun a => F36 a bd bg ba bb alo blo n m ca cb (mc + 1) → Code.wp Try.prog (nav [1, 1, 1, 1, 1] (Try.f36.body.getD .skip)) Q a w) ?_ a hf.sz hf.df hf
  clear hf
  intro u0 u1 _ u3 _ _ _ _ _ _ _ _ u12 u13 u14 u15 u16 u17 u18 _ _ _ _ _ _ _ _ _ _ _ _ _ _ _ _ _ _ _ _ _ _ _ _ _ _ _ _ _ _ _ _ _ _ _ _ _ _ _ _ _ _ _ _ _ _ _ _ _ _ _ _ _ _ _ _ _ _ _ _ _ _ _ _ _ _ _ _ _ _ _ _ _ _ _ _ _ _ _ _ _ _ _ _ _ _ _ _ _ _ _ _ _ _ _ _ _ _ _ _ _ _ _ _ _ _ _ _ _ _ _ _ _ _ _ _ _ _ _ _ _ _ _ _ _ _ _ _ _ _ _ _ _ _ _ _ _ _ _ _ _ _ _ _ _ _ _ _ _ _ _ _ _ _ _ _ _ _ _ _ _ _ _ _ _ _ _ _ _ _ _ _ _ _ _ _ _ _ _ _ _ _ _ _ _ _ _ _ _ _ _ _ _ _ _ _ _ _ _ _ _ _ _ _ _ _ _ _ _ _ _ _ _ _ _ _ _ _ _ _ _ _ _ _ _ _ _ _ _ _ _ _ _ _ _ _ _ _ _ _ _ _ _ _ _ _ _ _ _ _ _ _ _ _ _ _ _ _ _ _ _ _ _ _ _ _ _ _ _ _ _ _ _ _ _ _ _ _ _ _ _ _ _ _ _ _ _ _ _ _ _ _ _ _ _ _ _ _ _ _ _ _ _ _ _ _ _ _ _ _ _ _ _ _ _ _ _ _ _ _ _ _ _ _ _ hf
  have e0 := hf.t0
  have e1 := hf.t1
  have e3 := hf.t3
  have e12 := hf.t12
  have e13 := hf.t13
  have e14 := hf.t14
  have e15 := hf.t15
  have e16 := hf.t16
  have e17 := hf.t17
  have e18 := hf.t18
  clear hf
  change u0 = _ at e0; change u1 = _ at e1; change u3 = _ at e3; change u12 = _ at e12; change u13 = _ at e13; change u14 = _ at e14; change u15 = _ at e15; change u16 = _ at e16; change u17 = _ at e17; change u18 = _ at e18
  subst e0 e1 e3 e12 e13 e14 e15 e16 e17 e18
  conv => arg 2; whnf
  go_wp2_with (go_at_call 42; refine hcall.out.mono ?_; rintro e w1 ⟨X, Y, rfl, hin, hb1⟩; have hXY := (show X ≤ n ∧ Y ≤ m from ⟨hin.1, hin.2.1⟩); obtain ⟨hX, hY⟩ := hXY; have HIN : Hid (Plain.Inside (tab A B) n m mc X Y) := hin; clear hin)
  exact hQ _ _ X Y ⟨rfl, rfl, rfl⟩ (HW.out.below (by assumption)) HIN.out

end
end Go.Proofs.Qxb6600330a
