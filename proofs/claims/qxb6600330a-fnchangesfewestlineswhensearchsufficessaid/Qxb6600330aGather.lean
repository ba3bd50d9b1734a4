import Derived.Test.Qxb6600330aScript
import Derived.Test.Qxb6600330aZz38
import Derived.Test.Qxb6600330aRun
import Derived.Maps.AppendAt
import Derived.WalkSmall
namespace Go.Proofs.Qxb6600330a
open Go.RowKit
set_option linter.unusedVariables false

theorem info47 : (Try.prog.info? 47).map (fun i => (i.zero, i.size, i.bytes)) = some (some (.agg #[.int .i64 0, .int .i64 0, .int .i64 0, .int .i64 0]), 4, 32) := by kernel_rfl
def four (c : Plain.Ch) : List Value := [.int .i64 (c.b : Int), .int .i64 (c.r : Int), .int .i64 (c.a : Int), .int .i64 (c.d : Int)]
def flat (F : List Plain.Ch) : List Value := F.flatMap four
theorem flat_snoc (F : List Plain.Ch) (c : Plain.Ch) : flat (F ++ [c]) = flat F ++ four c := by simp [flat]
theorem flat_length : ∀ F : List Plain.Ch, (flat F).length = F.length * 4
  | [] => rfl
  | c :: F => by
    show (four c ++ flat F).length = (F.length + 1) * 4
    rw [List.length_append, flat_length F]; show 4 + _ = _; omega
theorem flat_at : ∀ (F : List Plain.Ch) (k q : Nat), k < F.length → q < 4 → (flat F)[k * 4 + q]? = (four (Plain.cAt F k))[q]?
  | c :: F, 0, q, _, hq => by
    show (four c ++ flat F)[0 * 4 + q]? = (four c)[q]?
    rw [Nat.zero_mul, Nat.zero_add, List.getElem?_append_left (by show q < 4; exact hq)]
  | c :: F, k + 1, q, hk, hq => by
    have hk : k + 1 < F.length + 1 := hk
    show (four c ++ flat F)[(k + 1) * 4 + q]? = (four (Plain.cAt F k))[q]?
    rw [List.getElem?_append_right (by show 4 ≤ _; omega), ← flat_at F k q (by omega) hq]
    congr 1
    show (k + 1) * 4 + q - 4 = _
    omega
theorem ChSl.of_own {w : World} {base : Nat} {so : Option Addr} {F : List Plain.Ch} {cs : Nat} (h : w.ownsRow base 47 4 (.slice so F.length cs) F.length (flat F)) : ChSl w so F := fun h0 => by
  rcases h.2 with ⟨_, e⟩ | ⟨g, cap, cur, e, _⟩
  · omega
  · have e' : so = some ⟨g, 0, none⟩ := by injection e
    subst e'
    refine ⟨g, rfl, fun k hk => ?_⟩
    have key : ∀ q u, (four (Plain.cAt F k))[q]? = some u → q < 4 → w.cell? ⟨g, k * 4 + q, none⟩ = some u := fun q u hu hq => by
      have := h.cells (g := g) rfl (k * 4 + q) u (by rw [flat_at F k q hk hq]; exact hu)
      rw [Addr.add_lit] at this
      rw [Nat.zero_add] at this
      exact this
    exact ⟨key 0 _ rfl (by omega), key 1 _ rfl (by omega), key 2 _ rfl (by omega), key 3 _ rfl (by omega)⟩

theorem Plain.len_total {α : Type} {T U : Nat → α} {N M : Nat} {F : List Plain.Ch} (h : Plain.Ok T U N M F) : ∀ k, k ≤ F.length → k ≤ Plain.total (F.take k)
  | 0, _ => Nat.zero_le _
  | k + 1, hk => by
    have h1 := Plain.len_total h k (by omega)
    have h2 := (h k (by omega)).some
    rw [Plain.total_take (by omega)]
    omega
theorem Plain.len_bound {α : Type} {T U : Nat → α} {N M : Nat} {F : List Plain.Ch} (h : Plain.Ok T U N M F) : F.length ≤ N + M := by
  have h1 := Plain.len_total h F.length (Nat.le_refl _)
  have h2 := Plain.total_bound h F.length (Nat.le_refl _)
  have h3 := Plain.pI_bound h (Nat.le_refl F.length)
  omega

/-- The frame in the gathering loop. -/
structure G38 (a : Act) (va vb : Value) (mc bd : Nat) (vf : Value) (i j : Nat) : Prop extends Z38D a va vb mc bd where
  t11 : a.tmps.getD 11 undef = vf
  t12 : a.tmps.getD 12 undef = .int .i64 (i : Int)
  t13 : a.tmps.getD 13 undef = .int .i64 (j : Int)
structure G38B (a : Act) (va vb : Value) (mc bd : Nat) (vf : Value) (i j bx : Nat) : Prop extends G38 a va vb mc bd vf i j where
  t14 : a.tmps.getD 14 undef = .pointer (some ⟨bx, 0, none⟩)
section
variable {Q : Exit → Act → World → Prop} {a : Act} {w : World} {ao bo : Option Addr} {N M ca cb mc bd br bad bx i j : Nat} {vf : Value} {A B : Nat → Int} {R D : Nat → Bool}
set_option maxRecDepth 100000 in
set_option maxHeartbeats 1000000 in
theorem g7 (hf : Z38D a (.slice ao N ca) (.slice bo M cb) mc bd) (hQ : ∀ a', Z38D a' (.slice ao N ca) (.slice bo M cb) mc bd → a'.tmps.getD 11 undef = .slice none 0 0 → Q .normal a' w) : Code.wp Try.prog (nav [1, 1, 1, 1, 1, 1, 0] (Try.f38.body.getD .skip)) Q a w := by
  have HQ := (show Hid _ from hQ)
  clear hQ
  refine lit149 (p := fun a => Z38D a (.slice ao N ca) (.slice bo M cb) mc bd → Code.wp Try.prog (nav [1, 1, 1, 1, 1, 1, 0] (Try.f38.body.getD .skip)) Q a w) ?_ a hf.sz hf.df hf
  clear hf
  intro _ _ u2 _ _ _ _ u7 u8 _ u10 _ _ _ _ _ _ _ _ _ _ _ _ _ _ _ _ _ _ _ _ _ _ _ _ _ _ _ _ _ _ _ _ _ _ _ _ _ _ _ _ _ _ _ _ _ _ _ _ _ _ _ _ _ _ _ _ _ _ _ _ _ _ _ _ _ _ _ _ _ _ _ _ _ _ _ _ _ _ _ _ _ _ _ _ _ _ _ _ _ _ _ _ _ _ _ _ _ _ _ _ _ _ _ _ _ _ _ _ _ _ _ _ _ _ _ _ _ _ _ _ _ _ _ _ _ _ _ _ _ _ _ _ _ _ _ _ _ _ hf
  have e2 := hf.t2
  have e7 := hf.t7
  have e8 := hf.t8
  have e10 := hf.t10
  clear hf
  change u2 = _ at e2; change u7 = _ at e7; change u8 = _ at e8; change u10 = _ at e10
  subst e2 e7 e8 e10
  conv => arg 2; whnf
  go_wp2
  exact HQ.out _ ⟨⟨rfl, rfl, rfl, rfl, rfl⟩, rfl⟩ rfl

structure G38F (a : Act) (va vb : Value) (mc bd : Nat) (vf : Value) : Prop extends Z38D a va vb mc bd where
  t11 : a.tmps.getD 11 undef = vf
set_option maxRecDepth 100000 in
set_option maxHeartbeats 1000000 in
theorem g8 (hf : G38F a (.slice ao N ca) (.slice bo M cb) mc bd vf) (hQ : ∀ a', G38 a' (.slice ao N ca) (.slice bo M cb) mc bd vf 0 0 → Q .normal a' w) : Code.wp Try.prog (nav [1, 1, 1, 1, 1, 1, 1, 0, 0] (Try.f38.body.getD .skip)) Q a w := by
  have HQ := (show Hid _ from hQ)
  clear hQ
  refine lit149 (p := fun a => G38F a (.slice ao N ca) (.slice bo M cb) mc bd vf → Code.wp Try.prog (nav [1, 1, 1, 1, 1, 1, 1, 0, 0] (Try.f38.body.getD .skip)) Q a w) ?_ a hf.sz hf.df hf
  clear hf
  intro _ _ u2 _ _ _ _ u7 u8 _ u10 u11 _ _ _ _ _ _ _ _ _ _ _ _ _ _ _ _ _ _ _ _ _ _ _ _ _ _ _ _ _ _ _ _ _ _ _ _ _ _ _ _ _ _ _ _ _ _ _ _ _ _ _ _ _ _ _ _ _ _ _ _ _ _ _ _ _ _ _ _ _ _ _ _ _ _ _ _ _ _ _ _ _ _ _ _ _ _ _ _ _ _ _ _ _ _ _ _ _ _ _ _ _ _ _ _ _ _ _ _ _ _ _ _ _ _ _ _ _ _ _ _ _ _ _ _ _ _ _ _ _ _ _ _ _ _ _ _ _ hf
  have e2 := hf.t2
  have e7 := hf.t7
  have e8 := hf.t8
  have e10 := hf.t10
  have e11 := hf.t11
  clear hf
  change u2 = _ at e2; change u7 = _ at e7; change u8 = _ at e8; change u10 = _ at e10; change u11 = _ at e11
  subst e2 e7 e8 e10 e11
  conv => arg 2; whnf
  go_wp2
  exact HQ.out _ ⟨⟨⟨rfl, rfl, rfl, rfl, rfl⟩, rfl⟩, rfl, rfl, rfl⟩

set_option maxRecDepth 100000 in
set_option maxHeartbeats 1000000 in
theorem g9_in (hf : G38 a (.slice ao N ca) (.slice bo M cb) mc bd vf i j) (h : i < N ∨ j < M) (hQ : ∀ a', G38 a' (.slice ao N ca) (.slice bo M cb) mc bd vf i j → Q .normal a' w) : Code.wp Try.prog (nav [1, 1, 1, 1, 1, 1, 1, 0, 1, 0, 0, 0] (Try.f38.body.getD .skip)) Q a w := by
  have HQ := (show Hid _ from hQ)
  clear hQ
  refine lit149 (p := fun a => G38 a (.slice ao N ca) (.slice bo M cb) mc bd vf i j → Code.wp Try.prog (nav [1, 1, 1, 1, 1, 1, 1, 0, 1, 0, 0, 0] (Try.f38.body.getD .skip)) Q a w) ?_ a hf.sz hf.df hf
  clear hf
  intro _ _ u2 _ _ _ _ u7 u8 _ u10 u11 u12 u13 _ _ _ _ _ _ _ _ _ _ _ _ _ _ _ _ _ _ _ _ _ _ _ _ _ _ _ _ _ _ _ _ _ _ _ _ _ _ _ _ _ _ _ _ _ _ _ _ _ _ _ _ _ _ _ _ _ _ _ _ _ _ _ _ _ _ _ _ _ _ _ _ _ _ _ _ _ _ _ _ _ _ _ _ _ _ _ _ _ _ _ _ _ _ _ _ _ _ _ _ _ _ _ _ _ _ _ _ _ _ _ _ _ _ _ _ _ _ _ _ _ _ _ _ _ _ _ _ _ _ _ _ _ _ _ hf
  have e2 := hf.t2
  have e7 := hf.t7
  have e8 := hf.t8
  have e10 := hf.t10
  have e11 := hf.t11
  have e12 := hf.t12
  have e13 := hf.t13
  clear hf
  change u2 = _ at e2; change u7 = _ at e7; change u8 = _ at e8; change u10 = _ at e10; change u11 = _ at e11; change u12 = _ at e12; change u13 = _ at e13
  subst e2 e7 e8 e10 e11 e12 e13
  conv => arg 2; whnf
  by_cases q1 : (i : Int) < (N : Int)
  · clear h
    go_wp2
    exact HQ.out _ ⟨⟨⟨rfl, rfl, rfl, rfl, rfl⟩, rfl⟩, rfl, rfl, rfl⟩
  · have q2 : (j : Int) < (M : Int) := by omega
    clear h
    go_wp2
    exact HQ.out _ ⟨⟨⟨rfl, rfl, rfl, rfl, rfl⟩, rfl⟩, rfl, rfl, rfl⟩

set_option maxRecDepth 100000 in
set_option maxHeartbeats 1000000 in
theorem g9_out (hf : G38 a (.slice ao N ca) (.slice bo M cb) mc bd vf i j) (h1 : N ≤ i) (h2 : M ≤ j) (hQ : ∀ a', G38 a' (.slice ao N ca) (.slice bo M cb) mc bd vf i j → Q (.exit 0) a' w) : Code.wp Try.prog (nav [1, 1, 1, 1, 1, 1, 1, 0, 1, 0, 0, 0] (Try.f38.body.getD .skip)) Q a w := by
  have HQ := (show Hid _ from hQ)
  clear hQ
  refine lit149 (p := fun a => G38 a (.slice ao N ca) (.slice bo M cb) mc bd vf i j → Code.wp Try.prog (nav [1, 1, 1, 1, 1, 1, 1, 0, 1, 0, 0, 0] (Try.f38.body.getD .skip)) Q a w) ?_ a hf.sz hf.df hf
  clear hf
  intro _ _ u2 _ _ _ _ u7 u8 _ u10 u11 u12 u13 _ _ _ _ _ _ _ _ _ _ _ _ _ _ _ _ _ _ _ _ _ _ _ _ _ _ _ _ _ _ _ _ _ _ _ _ _ _ _ _ _ _ _ _ _ _ _ _ _ _ _ _ _ _ _ _ _ _ _ _ _ _ _ _ _ _ _ _ _ _ _ _ _ _ _ _ _ _ _ _ _ _ _ _ _ _ _ _ _ _ _ _ _ _ _ _ _ _ _ _ _ _ _ _ _ _ _ _ _ _ _ _ _ _ _ _ _ _ _ _ _ _ _ _ _ _ _ _ _ _ _ _ _ _ _ hf
  have e2 := hf.t2
  have e7 := hf.t7
  have e8 := hf.t8
  have e10 := hf.t10
  have e11 := hf.t11
  have e12 := hf.t12
  have e13 := hf.t13
  clear hf
  change u2 = _ at e2; change u7 = _ at e7; change u8 = _ at e8; change u10 = _ at e10; change u11 = _ at e11; change u12 = _ at e12; change u13 = _ at e13
  subst e2 e7 e8 e10 e11 e12 e13
  conv => arg 2; whnf
  have q1 : ¬ (i : Int) < (N : Int) := by omega
  have q2 : ¬ (j : Int) < (M : Int) := by omega
  go_wp2
  exact HQ.out _ ⟨⟨⟨rfl, rfl, rfl, rfl, rfl⟩, rfl⟩, rfl, rfl, rfl⟩

set_option maxRecDepth 100000 in
set_option maxHeartbeats 1000000 in
theorem g10_hit (hf : G38 a (.slice ao N ca) (.slice bo M cb) mc bd vf i j) (hN : N ≤ 4096) (hM : M ≤ 4096) (q1 : (i : Int) < (N : Int)) (q2 : (j : Int) < (M : Int)) (c2 : w.cell? ⟨bd, 2, none⟩ = some (.slice (some ⟨br, 0, none⟩) N N)) (c3 : w.cell? ⟨bd, 3, none⟩ = some (.slice (some ⟨bad, 0, none⟩) M M)) (kr : w.cell? ⟨br, i, none⟩ = some (.bool false)) (kd : w.cell? ⟨bad, j, none⟩ = some (.bool false)) (hQ : ∀ a', G38 a' (.slice ao N ca) (.slice bo M cb) mc bd vf (i + 1) (j + 1) → Q (.exit 1) a' w) : Code.wp Try.prog (nav [1, 1, 1, 1, 1, 1, 1, 0, 1, 0, 0, 1, 0, 0] (Try.f38.body.getD .skip)) Q a w := by
  have HQ := (show Hid _ from hQ)
  clear hQ
  refine lit149 (p := fun a => G38 a (.slice ao N ca) (.slice bo M cb) mc bd vf i j → Code.wp Try.prog (nav [1, 1, 1, 1, 1, 1, 1, 0, 1, 0, 0, 1, 0, 0] (Try.f38.body.getD .skip)) Q a w) ?_ a hf.sz hf.df hf
  clear hf
  intro _ _ u2 _ _ _ _ u7 u8 _ u10 u11 u12 u13 _ _ _ _ _ _ _ _ _ _ _ _ _ _ _ _ _ _ _ _ _ _ _ _ _ _ _ _ _ _ _ _ _ _ _ _ _ _ _ _ _ _ _ _ _ _ _ _ _ _ _ _ _ _ _ _ _ _ _ _ _ _ _ _ _ _ _ _ _ _ _ _ _ _ _ _ _ _ _ _ _ _ _ _ _ _ _ _ _ _ _ _ _ _ _ _ _ _ _ _ _ _ _ _ _ _ _ _ _ _ _ _ _ _ _ _ _ _ _ _ _ _ _ _ _ _ _ _ _ _ _ _ _ _ _ hf
  have e2 := hf.t2
  have e7 := hf.t7
  have e8 := hf.t8
  have e10 := hf.t10
  have e11 := hf.t11
  have e12 := hf.t12
  have e13 := hf.t13
  clear hf
  change u2 = _ at e2; change u7 = _ at e7; change u8 = _ at e8; change u10 = _ at e10; change u11 = _ at e11; change u12 = _ at e12; change u13 = _ at e13
  subst e2 e7 e8 e10 e11 e12 e13
  conv => arg 2; whnf
  go_wp2
  exact HQ.out _ ⟨⟨⟨rfl, rfl, rfl, rfl, rfl⟩, rfl⟩, rfl, by go_num, by go_num⟩

set_option maxRecDepth 100000 in
set_option maxHeartbeats 1000000 in
theorem g10_d (hf : G38 a (.slice ao N ca) (.slice bo M cb) mc bd vf i j) (hN : N ≤ 4096) (hM : M ≤ 4096) (q1 : (i : Int) < (N : Int)) (q2 : (j : Int) < (M : Int)) (c2 : w.cell? ⟨bd, 2, none⟩ = some (.slice (some ⟨br, 0, none⟩) N N)) (c3 : w.cell? ⟨bd, 3, none⟩ = some (.slice (some ⟨bad, 0, none⟩) M M)) (kr : w.cell? ⟨br, i, none⟩ = some (.bool false)) (kd : w.cell? ⟨bad, j, none⟩ = some (.bool true)) (hQ : ∀ a', G38 a' (.slice ao N ca) (.slice bo M cb) mc bd vf i j → Q .normal a' w) : Code.wp Try.prog (nav [1, 1, 1, 1, 1, 1, 1, 0, 1, 0, 0, 1, 0, 0] (Try.f38.body.getD .skip)) Q a w := by
  have HQ := (show Hid _ from hQ)
  clear hQ
  refine lit149 (p := fun a => G38 a (.slice ao N ca) (.slice bo M cb) mc bd vf i j → Code.wp Try.prog (nav [1, 1, 1, 1, 1, 1, 1, 0, 1, 0, 0, 1, 0, 0] (Try.f38.body.getD .skip)) Q a w) ?_ a hf.sz hf.df hf
  clear hf
  intro _ _ u2 _ _ _ _ u7 u8 _ u10 u11 u12 u13 _ _ _ _ _ _ _ _ _ _ _ _ _ _ _ _ _ _ _ _ _ _ _ _ _ _ _ _ _ _ _ _ _ _ _ _ _ _ _ _ _ _ _ _ _ _ _ _ _ _ _ _ _ _ _ _ _ _ _ _ _ _ _ _ _ _ _ _ _ _ _ _ _ _ _ _ _ _ _ _ _ _ _ _ _ _ _ _ _ _ _ _ _ _ _ _ _ _ _ _ _ _ _ _ _ _ _ _ _ _ _ _ _ _ _ _ _ _ _ _ _ _ _ _ _ _ _ _ _ _ _ _ _ _ _ hf
  have e2 := hf.t2
  have e7 := hf.t7
  have e8 := hf.t8
  have e10 := hf.t10
  have e11 := hf.t11
  have e12 := hf.t12
  have e13 := hf.t13
  clear hf
  change u2 = _ at e2; change u7 = _ at e7; change u8 = _ at e8; change u10 = _ at e10; change u11 = _ at e11; change u12 = _ at e12; change u13 = _ at e13
  subst e2 e7 e8 e10 e11 e12 e13
  conv => arg 2; whnf
  go_wp2
  exact HQ.out _ ⟨⟨⟨rfl, rfl, rfl, rfl, rfl⟩, rfl⟩, rfl, rfl, rfl⟩

set_option maxRecDepth 100000 in
set_option maxHeartbeats 1000000 in
theorem g10_r (hf : G38 a (.slice ao N ca) (.slice bo M cb) mc bd vf i j) (hN : N ≤ 4096) (hM : M ≤ 4096) (q1 : (i : Int) < (N : Int)) (q2 : (j : Int) < (M : Int)) (c2 : w.cell? ⟨bd, 2, none⟩ = some (.slice (some ⟨br, 0, none⟩) N N)) (kr : w.cell? ⟨br, i, none⟩ = some (.bool true)) (hQ : ∀ a', G38 a' (.slice ao N ca) (.slice bo M cb) mc bd vf i j → Q .normal a' w) : Code.wp Try.prog (nav [1, 1, 1, 1, 1, 1, 1, 0, 1, 0, 0, 1, 0, 0] (Try.f38.body.getD .skip)) Q a w := by
  have HQ := (show Hid _ from hQ)
  clear hQ
  refine lit149 (p := fun a => G38 a (.slice ao N ca) (.slice bo M cb) mc bd vf i j → Code.wp Try.prog (nav [1, 1, 1, 1, 1, 1, 1, 0, 1, 0, 0, 1, 0, 0] (Try.f38.body.getD .skip)) Q a w) ?_ a hf.sz hf.df hf
  clear hf
  intro _ _ u2 _ _ _ _ u7 u8 _ u10 u11 u12 u13 _ _ _ _ _ _ _ _ _ _ _ _ _ _ _ _ _ _ _ _ _ _ _ _ _ _ _ _ _ _ _ _ _ _ _ _ _ _ _ _ _ _ _ _ _ _ _ _ _ _ _ _ _ _ _ _ _ _ _ _ _ _ _ _ _ _ _ _ _ _ _ _ _ _ _ _ _ _ _ _ _ _ _ _ _ _ _ _ _ _ _ _ _ _ _ _ _ _ _ _ _ _ _ _ _ _ _ _ _ _ _ _ _ _ _ _ _ _ _ _ _ _ _ _ _ _ _ _ _ _ _ _ _ _ _ hf
  have e2 := hf.t2
  have e7 := hf.t7
  have e8 := hf.t8
  have e10 := hf.t10
  have e11 := hf.t11
  have e12 := hf.t12
  have e13 := hf.t13
  clear hf
  change u2 = _ at e2; change u7 = _ at e7; change u8 = _ at e8; change u10 = _ at e10; change u11 = _ at e11; change u12 = _ at e12; change u13 = _ at e13
  subst e2 e7 e8 e10 e11 e12 e13
  conv => arg 2; whnf
  go_wp2
  exact HQ.out _ ⟨⟨⟨rfl, rfl, rfl, rfl, rfl⟩, rfl⟩, rfl, rfl, rfl⟩

set_option maxRecDepth 100000 in
set_option maxHeartbeats 1000000 in
theorem g10_j (hf : G38 a (.slice ao N ca) (.slice bo M cb) mc bd vf i j) (hN : N ≤ 4096) (hM : M ≤ 4096) (q1 : (i : Int) < (N : Int)) (q2 : ¬ (j : Int) < (M : Int)) (hQ : ∀ a', G38 a' (.slice ao N ca) (.slice bo M cb) mc bd vf i j → Q .normal a' w) : Code.wp Try.prog (nav [1, 1, 1, 1, 1, 1, 1, 0, 1, 0, 0, 1, 0, 0] (Try.f38.body.getD .skip)) Q a w := by
  have HQ := (show Hid _ from hQ)
  clear hQ
  refine lit149 (p := fun a => G38 a (.slice ao N ca) (.slice bo M cb) mc bd vf i j → Code.wp Try.prog (nav [1, 1, 1, 1, 1, 1, 1, 0, 1, 0, 0, 1, 0, 0] (Try.f38.body.getD .skip)) Q a w) ?_ a hf.sz hf.df hf
  clear hf
  intro _ _ u2 _ _ _ _ u7 u8 _ u10 u11 u12 u13 _ _ _ _ _ _ _ _ _ _ _ _ _ _ _ _ _ _ _ _ _ _ _ _ _ _ _ _ _ _ _ _ _ _ _ _ _ _ _ _ _ _ _ _ _ _ _ _ _ _ _ _ _ _ _ _ _ _ _ _ _ _ _ _ _ _ _ _ _ _ _ _ _ _ _ _ _ _ _ _ _ _ _ _ _ _ _ _ _ _ _ _ _ _ _ _ _ _ _ _ _ _ _ _ _ _ _ _ _ _ _ _ _ _ _ _ _ _ _ _ _ _ _ _ _ _ _ _ _ _ _ _ _ _ _ hf
  have e2 := hf.t2
  have e7 := hf.t7
  have e8 := hf.t8
  have e10 := hf.t10
  have e11 := hf.t11
  have e12 := hf.t12
  have e13 := hf.t13
  clear hf
  change u2 = _ at e2; change u7 = _ at e7; change u8 = _ at e8; change u10 = _ at e10; change u11 = _ at e11; change u12 = _ at e12; change u13 = _ at e13
  subst e2 e7 e8 e10 e11 e12 e13
  conv => arg 2; whnf
  go_wp2
  exact HQ.out _ ⟨⟨⟨rfl, rfl, rfl, rfl, rfl⟩, rfl⟩, rfl, rfl, rfl⟩

set_option maxRecDepth 100000 in
set_option maxHeartbeats 1000000 in
theorem g10_i (hf : G38 a (.slice ao N ca) (.slice bo M cb) mc bd vf i j) (hN : N ≤ 4096) (hM : M ≤ 4096) (q1 : ¬ (i : Int) < (N : Int)) (hQ : ∀ a', G38 a' (.slice ao N ca) (.slice bo M cb) mc bd vf i j → Q .normal a' w) : Code.wp Try.prog (nav [1, 1, 1, 1, 1, 1, 1, 0, 1, 0, 0, 1, 0, 0] (Try.f38.body.getD .skip)) Q a w := by
  have HQ := (show Hid _ from hQ)
  clear hQ
  refine lit149 (p := fun a => G38 a (.slice ao N ca) (.slice bo M cb) mc bd vf i j → Code.wp Try.prog (nav [1, 1, 1, 1, 1, 1, 1, 0, 1, 0, 0, 1, 0, 0] (Try.f38.body.getD .skip)) Q a w) ?_ a hf.sz hf.df hf
  clear hf
  intro _ _ u2 _ _ _ _ u7 u8 _ u10 u11 u12 u13 _ _ _ _ _ _ _ _ _ _ _ _ _ _ _ _ _ _ _ _ _ _ _ _ _ _ _ _ _ _ _ _ _ _ _ _ _ _ _ _ _ _ _ _ _ _ _ _ _ _ _ _ _ _ _ _ _ _ _ _ _ _ _ _ _ _ _ _ _ _ _ _ _ _ _ _ _ _ _ _ _ _ _ _ _ _ _ _ _ _ _ _ _ _ _ _ _ _ _ _ _ _ _ _ _ _ _ _ _ _ _ _ _ _ _ _ _ _ _ _ _ _ _ _ _ _ _ _ _ _ _ _ _ _ _ hf
  have e2 := hf.t2
  have e7 := hf.t7
  have e8 := hf.t8
  have e10 := hf.t10
  have e11 := hf.t11
  have e12 := hf.t12
  have e13 := hf.t13
  clear hf
  change u2 = _ at e2; change u7 = _ at e7; change u8 = _ at e8; change u10 = _ at e10; change u11 = _ at e11; change u12 = _ at e12; change u13 = _ at e13
  subst e2 e7 e8 e10 e11 e12 e13
  conv => arg 2; whnf
  go_wp2
  exact HQ.out _ ⟨⟨⟨rfl, rfl, rfl, rfl, rfl⟩, rfl⟩, rfl, rfl, rfl⟩

theorem g10 (hf : G38 a (.slice ao N ca) (.slice bo M cb) mc bd vf i j) (hN : N ≤ 4096) (hM : M ≤ 4096) (c2 : w.cell? ⟨bd, 2, none⟩ = some (.slice (some ⟨br, 0, none⟩) N N)) (c3 : w.cell? ⟨bd, 3, none⟩ = some (.slice (some ⟨bad, 0, none⟩) M M)) (hR : w.rowIs br 4 N (fun i => .bool (R i))) (hD : w.rowIs bad 4 M (fun j => .bool (D j)))
    (hhit : ∀ a', i < N → j < M → R i = false → D j = false → G38 a' (.slice ao N ca) (.slice bo M cb) mc bd vf (i + 1) (j + 1) → Q (.exit 1) a' w) (hmiss : ∀ a', ¬ (i < N ∧ j < M ∧ R i = false ∧ D j = false) → G38 a' (.slice ao N ca) (.slice bo M cb) mc bd vf i j → Q .normal a' w) : Code.wp Try.prog (nav [1, 1, 1, 1, 1, 1, 1, 0, 1, 0, 0, 1, 0, 0] (Try.f38.body.getD .skip)) Q a w := by
  by_cases q1 : i < N
  · have kr := hR.cell (i := i) q1
    by_cases q2 : j < M
    · have kd := hD.cell (i := j) q2
      cases eR : R i with
      | false =>
        rw [eR] at kr
        cases eD : D j with
        | false =>
          rw [eD] at kd
          exact g10_hit hf hN hM (by omega) (by omega) c2 c3 kr kd fun a' h => hhit a' q1 q2 eR eD h
        | true =>
          rw [eD] at kd
          exact g10_d hf hN hM (by omega) (by omega) c2 c3 kr kd fun a' h => hmiss a' (fun h => by rw [eD] at h; cases h.2.2.2) h
      | true =>
        rw [eR] at kr
        exact g10_r hf hN hM (by omega) (by omega) c2 kr fun a' h => hmiss a' (fun h => by rw [eR] at h; cases h.2.2.1) h
    · exact g10_j hf hN hM (by omega) (by omega) fun a' h => hmiss a' (fun h => q2 h.2.1) h
  · exact g10_i hf hN hM (by omega) fun a' h => hmiss a' (fun h => q1 h.1) h

set_option maxRecDepth 100000 in
set_option maxHeartbeats 1000000 in
theorem g12 (hf : G38 a (.slice ao N ca) (.slice bo M cb) mc bd vf i j) (hQ : ∀ a', G38B a' (.slice ao N ca) (.slice bo M cb) mc bd vf i j w.heap.size → Q .normal a' (w.alloc (Obj.cells #[.int .i64 (i : Int), .int .i64 0, .int .i64 (j : Int), .int .i64 0] 47))) : Code.wp Try.prog (nav [1, 1, 1, 1, 1, 1, 1, 0, 1, 0, 0, 1, 0, 1, 0] (Try.f38.body.getD .skip)) Q a w := by
  have HQ := (show Hid _ from hQ)
  clear hQ
  refine lit149 (p := fun a => G38 a (.slice ao N ca) (.slice bo M cb) mc bd vf i j → Code.wp Try.prog (nav [1, 1, 1, 1, 1, 1, 1, 0, 1, 0, 0, 1, 0, 1, 0] (Try.f38.body.getD .skip)) Q a w) ?_ a hf.sz hf.df hf
  clear hf
  intro _ _ u2 _ _ _ _ u7 u8 _ u10 u11 u12 u13 _ _ _ _ _ _ _ _ _ _ _ _ _ _ _ _ _ _ _ _ _ _ _ _ _ _ _ _ _ _ _ _ _ _ _ _ _ _ _ _ _ _ _ _ _ _ _ _ _ _ _ _ _ _ _ _ _ _ _ _ _ _ _ _ _ _ _ _ _ _ _ _ _ _ _ _ _ _ _ _ _ _ _ _ _ _ _ _ _ _ _ _ _ _ _ _ _ _ _ _ _ _ _ _ _ _ _ _ _ _ _ _ _ _ _ _ _ _ _ _ _ _ _ _ _ _ _ _ _ _ _ _ _ _ _ hf
  have e2 := hf.t2
  have e7 := hf.t7
  have e8 := hf.t8
  have e10 := hf.t10
  have e11 := hf.t11
  have e12 := hf.t12
  have e13 := hf.t13
  clear hf
  change u2 = _ at e2; change u7 = _ at e7; change u8 = _ at e8; change u10 = _ at e10; change u11 = _ at e11; change u12 = _ at e12; change u13 = _ at e13
  subst e2 e7 e8 e10 e11 e12 e13
  conv => arg 2; whnf
  go_wp2
  exact HQ.out _ ⟨⟨⟨⟨rfl, rfl, rfl, rfl, rfl⟩, rfl⟩, rfl, rfl, rfl⟩, rfl⟩

set_option maxRecDepth 100000 in
set_option maxHeartbeats 1000000 in
theorem g13 (hf : G38B a (.slice ao N ca) (.slice bo M cb) mc bd vf i j bx) (hN : N ≤ 4096) (hi : i ≤ N) (c2 : w.cell? ⟨bd, 2, none⟩ = some (.slice (some ⟨br, 0, none⟩) N N)) (hR : w.rowIs br 4 N (fun i => .bool (R i)))
    (hQ : ∀ a' i', G38B a' (.slice ao N ca) (.slice bo M cb) mc bd vf i' j bx → i ≤ i' → i' ≤ N → (∀ t, i ≤ t → t < i' → R t = true) → (i' = N ∨ R i' = false) → Q .normal a' w) : Code.wp Try.prog (nav [1, 1, 1, 1, 1, 1, 1, 0, 1, 0, 0, 1, 0, 1, 1, 0] (Try.f38.body.getD .skip)) Q a w := by
  have HW : Hid (w.cell? ⟨bd, 2, none⟩ = some (.slice (some ⟨br, 0, none⟩) N N) ∧ w.rowIs br 4 N (fun i => .bool (R i))) := ⟨c2, hR⟩
  have HQ : Hid (∀ a' i', G38B a' (.slice ao N ca) (.slice bo M cb) mc bd vf i' j bx → i ≤ i' → i' ≤ N → (∀ t, i ≤ t → t < i' → R t = true) → (i' = N ∨ R i' = false) → Q .normal a' w) := hQ
  clear c2 hR hQ
  refine lit149 (p := fun a => G38B a (.slice ao N ca) (.slice bo M cb) mc bd vf i j bx → Code.wp Try.prog (nav [1, 1, 1, 1, 1, 1, 1, 0, 1, 0, 0, 1, 0, 1, 1, 0] (Try.f38.body.getD .skip)) Q a w) ?_ a hf.sz hf.df hf
  clear hf
  intro _ _ u2 _ _ _ _ u7 u8 _ u10 u11 u12 u13 u14 _ _ _ _ _ _ _ _ _ _ _ _ _ _ _ _ _ _ _ _ _ _ _ _ _ _ _ _ _ _ _ _ _ _ _ _ _ _ _ _ _ _ _ _ _ _ _ _ _ _ _ _ _ _ _ _ _ _ _ _ _ _ _ _ _ _ _ _ _ _ _ _ _ _ _ _ _ _ _ _ _ _ _ _ _ _ _ _ _ _ _ _ _ _ _ _ _ _ _ _ _ _ _ _ _ _ _ _ _ _ _ _ _ _ _ _ _ _ _ _ _ _ _ _ _ _ _ _ _ _ _ _ _ _ hf
  have e2 := hf.t2
  have e7 := hf.t7
  have e8 := hf.t8
  have e10 := hf.t10
  have e11 := hf.t11
  have e12 := hf.t12
  have e13 := hf.t13
  have e14 := hf.t14
  clear hf
  change u2 = _ at e2; change u7 = _ at e7; change u8 = _ at e8; change u10 = _ at e10; change u11 = _ at e11; change u12 = _ at e12; change u13 = _ at e13; change u14 = _ at e14
  subst e2 e7 e8 e10 e11 e12 e13 e14
  conv => arg 2; whnf
  go_wp2_with fail
  go_loopw [12] (fun v wr => ∃ i' : Nat, i ≤ i' ∧ i' ≤ N ∧ v = .int .i64 (i' : Int) ∧ Hid ((∀ t, i ≤ t → t < i' → R t = true) ∧ wr = w)) (fun v wr => N - (intOf v).toNat)
  case atStart => exact ⟨i, by omega, by omega, rfl, fun t h1 h2 => by omega, rfl⟩
  case round =>
    obtain ⟨i', hi1, hi2, rfl, hq⟩ := hrel
    have hww := hq.out.2.symm
    have HA : Hid (∀ t, i ≤ t → t < i' → R t = true) := hq.out.1
    clear hq
    subst hww
    by_cases q3 : (i' : Int) < (N : Int)
    · have c2 := HW.out.1
      have kr := HW.out.2.cell (i := i') (by omega)
      cases eR : R i' with
      | true =>
        rw [eR] at kr
        have HA' : Hid (∀ t, i ≤ t → t < i' + 1 → R t = true) := fun t h1 h2 => by
          by_cases e : t = i'
          · subst e; exact eR
          · exact HA.out t h1 (by omega)
        clear eR HA
        go_wp2
        go_roundw
        case rel => exact ⟨i' + 1, by omega, by omega, by go_num, HA'.out, (by first | rfl | trivial)⟩
        case measure => simp [intOf]; omega
      | false =>
        rw [eR] at kr
        have EI : Hid (i' = N ∨ R i' = false) := .inr eR
        clear eR
        go_wp2
        exact HQ.out _ i' ⟨⟨⟨⟨rfl, rfl, rfl, rfl, rfl⟩, rfl⟩, rfl, rfl, rfl⟩, rfl⟩ hi1 hi2 HA.out EI.out
    · have EI : Hid (i' = N ∨ R i' = false) := .inl (by omega)
      go_wp2
      exact HQ.out _ i' ⟨⟨⟨⟨rfl, rfl, rfl, rfl, rfl⟩, rfl⟩, rfl, rfl, rfl⟩, rfl⟩ hi1 hi2 HA.out EI.out

set_option maxRecDepth 100000 in
set_option maxHeartbeats 1000000 in
theorem g15 (hf : G38B a (.slice ao N ca) (.slice bo M cb) mc bd vf i j bx) (hM : M ≤ 4096) (hj : j ≤ M) (c3 : w.cell? ⟨bd, 3, none⟩ = some (.slice (some ⟨bad, 0, none⟩) M M)) (hD : w.rowIs bad 4 M (fun j => .bool (D j)))
    (hQ : ∀ a' j', G38B a' (.slice ao N ca) (.slice bo M cb) mc bd vf i j' bx → j ≤ j' → j' ≤ M → (∀ t, j ≤ t → t < j' → D t = true) → (j' = M ∨ D j' = false) → Q .normal a' w) : Code.wp Try.prog (nav [1, 1, 1, 1, 1, 1, 1, 0, 1, 0, 0, 1, 0, 1, 1, 1, 0] (Try.f38.body.getD .skip)) Q a w := by
  have HW : Hid (w.cell? ⟨bd, 3, none⟩ = some (.slice (some ⟨bad, 0, none⟩) M M) ∧ w.rowIs bad 4 M (fun j => .bool (D j))) := ⟨c3, hD⟩
  have HQ : Hid (∀ a' j', G38B a' (.slice ao N ca) (.slice bo M cb) mc bd vf i j' bx → j ≤ j' → j' ≤ M → (∀ t, j ≤ t → t < j' → D t = true) → (j' = M ∨ D j' = false) → Q .normal a' w) := hQ
  clear c3 hD hQ
  refine lit149 (p := fun a => G38B a (.slice ao N ca) (.slice bo M cb) mc bd vf i j bx → Code.wp Try.prog (nav [1, 1, 1, 1, 1, 1, 1, 0, 1, 0, 0, 1, 0, 1, 1, 1, 0] (Try.f38.body.getD .skip)) Q a w) ?_ a hf.sz hf.df hf
  clear hf
  intro _ _ u2 _ _ _ _ u7 u8 _ u10 u11 u12 u13 u14 _ _ _ _ _ _ _ _ _ _ _ _ _ _ _ _ _ _ _ _ _ _ _ _ _ _ _ _ _ _ _ _ _ _ _ _ _ _ _ _ _ _ _ _ _ _ _ _ _ _ _ _ _ _ _ _ _ _ _ _ _ _ _ _ _ _ _ _ _ _ _ _ _ _ _ _ _ _ _ _ _ _ _ _ _ _ _ _ _ _ _ _ _ _ _ _ _ _ _ _ _ _ _ _ _ _ _ _ _ _ _ _ _ _ _ _ _ _ _ _ _ _ _ _ _ _ _ _ _ _ _ _ _ _ hf
  have e2 := hf.t2
  have e7 := hf.t7
  have e8 := hf.t8
  have e10 := hf.t10
  have e11 := hf.t11
  have e12 := hf.t12
  have e13 := hf.t13
  have e14 := hf.t14
  clear hf
  change u2 = _ at e2; change u7 = _ at e7; change u8 = _ at e8; change u10 = _ at e10; change u11 = _ at e11; change u12 = _ at e12; change u13 = _ at e13; change u14 = _ at e14
  subst e2 e7 e8 e10 e11 e12 e13 e14
  conv => arg 2; whnf
  go_wp2_with fail
  go_loopw [13] (fun v wr => ∃ j' : Nat, j ≤ j' ∧ j' ≤ M ∧ v = .int .i64 (j' : Int) ∧ Hid ((∀ t, j ≤ t → t < j' → D t = true) ∧ wr = w)) (fun v wr => M - (intOf v).toNat)
  case atStart => exact ⟨j, by omega, by omega, rfl, fun t h1 h2 => by omega, rfl⟩
  case round =>
    obtain ⟨j', hi1, hi2, rfl, hq⟩ := hrel
    have hww := hq.out.2.symm
    have HA : Hid (∀ t, j ≤ t → t < j' → D t = true) := hq.out.1
    clear hq
    subst hww
    by_cases q3 : (j' : Int) < (M : Int)
    · have c3 := HW.out.1
      have kd := HW.out.2.cell (i := j') (by omega)
      cases eD : D j' with
      | true =>
        rw [eD] at kd
        have HA' : Hid (∀ t, j ≤ t → t < j' + 1 → D t = true) := fun t h1 h2 => by
          by_cases e : t = j'
          · subst e; exact eD
          · exact HA.out t h1 (by omega)
        clear eD HA
        go_wp2
        go_roundw
        case rel => exact ⟨j' + 1, by omega, by omega, by go_num, HA'.out, (by first | rfl | trivial)⟩
        case measure => simp [intOf]; omega
      | false =>
        rw [eD] at kd
        have EI : Hid (j' = M ∨ D j' = false) := .inr eD
        clear eD
        go_wp2
        exact HQ.out _ j' ⟨⟨⟨⟨rfl, rfl, rfl, rfl, rfl⟩, rfl⟩, rfl, rfl, rfl⟩, rfl⟩ hi1 hi2 HA.out EI.out
    · have EI : Hid (j' = M ∨ D j' = false) := .inl (by omega)
      go_wp2
      exact HQ.out _ j' ⟨⟨⟨⟨rfl, rfl, rfl, rfl, rfl⟩, rfl⟩, rfl, rfl, rfl⟩, rfl⟩ hi1 hi2 HA.out EI.out

set_option maxRecDepth 100000 in
set_option maxHeartbeats 1000000 in
theorem g17 {wo : World} {base i' j' : Nat} {F : List Plain.Ch} {so : Option Addr} {cs : Nat} (hf : G38B a (.slice ao N ca) (.slice bo M cb) mc bd (.slice so F.length cs) i' j' wo.heap.size) (hN : N ≤ 4096) (hM : M ≤ 4096) (h1 : i ≤ i') (h2 : i' ≤ N) (h3 : j ≤ j') (h4 : j' ≤ M) (hF : F.length ≤ 8192) (hb : base ≤ wo.heap.size)
    (hw : w = wo.alloc (Obj.cells #[.int .i64 (i : Int), .int .i64 0, .int .i64 (j : Int), .int .i64 0] 47)) (ho : wo.ownsRow base 47 4 (.slice so F.length cs) F.length (flat F))
    (hQ : ∀ a' w' so' cs', G38 a' (.slice ao N ca) (.slice bo M cb) mc bd (.slice so' (F.length + 1) cs') i' j' → w'.ownsRow base 47 4 (.slice so' (F.length + 1) cs') (F.length + 1) (flat (F ++ [⟨i, i' - i, j, j' - j⟩])) → Below base wo w' → Q .normal a' w') : Code.wp Try.prog (nav [1, 1, 1, 1, 1, 1, 1, 0, 1, 0, 0, 1, 0, 1, 1, 1, 1] (Try.f38.body.getD .skip)) Q a w := by
  subst hw
  have HQ : Hid (∀ a' w' so' cs', G38 a' (.slice ao N ca) (.slice bo M cb) mc bd (.slice so' (F.length + 1) cs') i' j' → w'.ownsRow base 47 4 (.slice so' (F.length + 1) cs') (F.length + 1) (flat (F ++ [⟨i, i' - i, j, j' - j⟩])) → Below base wo w' → Q .normal a' w') := hQ
  have HO : Hid (wo.ownsRow base 47 4 (.slice so F.length cs) F.length (flat F)) := ho
  clear hQ ho
  obtain ⟨i0, ii, hz0, hz1, hz2⟩ := info_parts info47
  refine lit149 (p := fun a => G38B a (.slice ao N ca) (.slice bo M cb) mc bd (.slice so F.length cs) i' j' wo.heap.size → Code.wp Try.prog (nav [1, 1, 1, 1, 1, 1, 1, 0, 1, 0, 0, 1, 0, 1, 1, 1, 1] (Try.f38.body.getD .skip)) Q a (wo.alloc (Obj.cells #[.int .i64 (i : Int), .int .i64 0, .int .i64 (j : Int), .int .i64 0] 47))) ?_ a hf.sz hf.df hf
  clear hf
  intro _ _ u2 _ _ _ _ u7 u8 _ u10 u11 u12 u13 u14 _ _ _ _ _ _ _ _ _ _ _ _ _ _ _ _ _ _ _ _ _ _ _ _ _ _ _ _ _ _ _ _ _ _ _ _ _ _ _ _ _ _ _ _ _ _ _ _ _ _ _ _ _ _ _ _ _ _ _ _ _ _ _ _ _ _ _ _ _ _ _ _ _ _ _ _ _ _ _ _ _ _ _ _ _ _ _ _ _ _ _ _ _ _ _ _ _ _ _ _ _ _ _ _ _ _ _ _ _ _ _ _ _ _ _ _ _ _ _ _ _ _ _ _ _ _ _ _ _ _ _ _ _ _ hf
  have e2 := hf.t2
  have e7 := hf.t7
  have e8 := hf.t8
  have e10 := hf.t10
  have e11 := hf.t11
  have e12 := hf.t12
  have e13 := hf.t13
  have e14 := hf.t14
  clear hf
  change u2 = _ at e2; change u7 = _ at e7; change u8 = _ at e8; change u10 = _ at e10; change u11 = _ at e11; change u12 = _ at e12; change u13 = _ at e13; change u14 = _ at e14
  subst e2 e7 e8 e10 e11 e12 e13 e14
  conv => arg 2; whnf
  have hsz : wo.heap.size + 1 ≤ wo.heap.size + 1 := Nat.le_refl _
  go_wp2_with (first
    | (at_builtin; refine wpList_append_own_at _ rfl _ _ 43 rfl base 47 i0 _ 4 32 Try.underlying43 ii hz0 hz1 hz2 rfl (by decide) _ _ _ rfl ((HO.out.alloc _).alloc _) _ 1 1 [.int .i64 (i : Int), .int .i64 ((i' : Int) - i), .int .i64 (j : Int), .int .i64 ((j' : Int) - j)] rfl rfl ?c1 ?c2 ?c3 ?c4 ?c5 ?_)
    | go_in)
  case c1 =>
    intro q u hu
    rcases q with _ | _ | _ | _ | q <;> simp at hu <;> subst hu <;> simp [Addr.add]
  case c2 => intro u hu; simp at hu; rcases hu with rfl | rfl | rfl | rfl <;> rfl
  case c3 => unfold maxLen; omega
  case c4 => omega
  case c5 => first | omega | (simp; omega)
  intro v1 w1 hown hgrow hnil hat
  have HB : Hid (Below base wo w1) := (((Below.refl base wo).alloc hb _).alloc (by simp; omega) _).grown hgrow (by simp; omega) (fun k hk => (HO.out.lt k hk).1)
  have ef : flat (F ++ [⟨i, i' - i, j, j' - j⟩]) = flat F ++ [.int .i64 (i : Int), .int .i64 ((i' : Int) - i), .int .i64 (j : Int), .int .i64 ((j' : Int) - j)] := by
    rw [flat_snoc, show (i' : Int) - i = ((i' - i : Nat) : Int) from by omega, show (j' : Int) - j = ((j' - j : Nat) : Int) from by omega]
    rfl
  rw [← ef] at hown
  have HV : Hid (w1.ownsRow base 47 4 v1 (F.length + 1) (flat (F ++ [⟨i, i' - i, j, j' - j⟩]))) := hown
  have hv : ∃ so' cs', v1 = .slice so' (F.length + 1) cs' := by
    rcases hown.2 with ⟨_, h0⟩ | ⟨g, cap, cur, e, _⟩
    · omega
    · exact ⟨_, cap, e⟩
  obtain ⟨so', cs', rfl⟩ := hv
  clear hown hgrow hnil hat ef hsz
  go_wp2
  exact HQ.out _ w1 so' cs' ⟨⟨⟨rfl, rfl, rfl, rfl, rfl⟩, rfl⟩, rfl, rfl, rfl⟩ HV.out HB.out

set_option maxRecDepth 100000 in
set_option maxHeartbeats 1000000 in
theorem g19 (hf : G38 a (.slice ao N ca) (.slice bo M cb) mc bd vf i j) (hQ : ∀ a', a'.defers = [] → a'.tmps.getD 6 undef = vf → Q .ret a' w) : Code.wp Try.prog (nav [1, 1, 1, 1, 1, 1, 1, 1] (Try.f38.body.getD .skip)) Q a w := by
  have HQ := (show Hid _ from hQ)
  clear hQ
  refine lit149 (p := fun a => G38 a (.slice ao N ca) (.slice bo M cb) mc bd vf i j → Code.wp Try.prog (nav [1, 1, 1, 1, 1, 1, 1, 1] (Try.f38.body.getD .skip)) Q a w) ?_ a hf.sz hf.df hf
  clear hf
  intro _ _ u2 _ _ _ _ u7 u8 _ u10 u11 u12 u13 _ _ _ _ _ _ _ _ _ _ _ _ _ _ _ _ _ _ _ _ _ _ _ _ _ _ _ _ _ _ _ _ _ _ _ _ _ _ _ _ _ _ _ _ _ _ _ _ _ _ _ _ _ _ _ _ _ _ _ _ _ _ _ _ _ _ _ _ _ _ _ _ _ _ _ _ _ _ _ _ _ _ _ _ _ _ _ _ _ _ _ _ _ _ _ _ _ _ _ _ _ _ _ _ _ _ _ _ _ _ _ _ _ _ _ _ _ _ _ _ _ _ _ _ _ _ _ _ _ _ _ _ _ _ _ hf
  have e2 := hf.t2
  have e7 := hf.t7
  have e8 := hf.t8
  have e10 := hf.t10
  have e11 := hf.t11
  have e12 := hf.t12
  have e13 := hf.t13
  clear hf
  change u2 = _ at e2; change u7 = _ at e7; change u8 = _ at e8; change u10 = _ at e10; change u11 = _ at e11; change u12 = _ at e12; change u13 = _ at e13
  subst e2 e7 e8 e10 e11 e12 e13
  conv => arg 2; whnf
  go_wp2
  exact HQ.out _ rfl rfl

theorem code_P6 : (nav [1, 1, 1, 1, 1, 1] (Try.f38.body.getD .skip)) = .seq (nav [1, 1, 1, 1, 1, 1, 0] (Try.f38.body.getD .skip)) (.seq (.seq (nav [1, 1, 1, 1, 1, 1, 1, 0, 0] (Try.f38.body.getD .skip)) (.block 0 (.loop (nav [1, 1, 1, 1, 1, 1, 1, 0, 1, 0, 0] (Try.f38.body.getD .skip))))) (nav [1, 1, 1, 1, 1, 1, 1, 1] (Try.f38.body.getD .skip))) := by kernel_rfl
theorem code_LB : (nav [1, 1, 1, 1, 1, 1, 1, 0, 1, 0, 0] (Try.f38.body.getD .skip)) = .seq (nav [1, 1, 1, 1, 1, 1, 1, 0, 1, 0, 0, 0] (Try.f38.body.getD .skip)) (.block 1 (nav [1, 1, 1, 1, 1, 1, 1, 0, 1, 0, 0, 1, 0] (Try.f38.body.getD .skip))) := by kernel_rfl
theorem code_B1 : (nav [1, 1, 1, 1, 1, 1, 1, 0, 1, 0, 0, 1, 0] (Try.f38.body.getD .skip)) = .seq (nav [1, 1, 1, 1, 1, 1, 1, 0, 1, 0, 0, 1, 0, 0] (Try.f38.body.getD .skip)) (.seq (nav [1, 1, 1, 1, 1, 1, 1, 0, 1, 0, 0, 1, 0, 1, 0] (Try.f38.body.getD .skip)) (.seq (nav [1, 1, 1, 1, 1, 1, 1, 0, 1, 0, 0, 1, 0, 1, 1, 0] (Try.f38.body.getD .skip)) (.seq (nav [1, 1, 1, 1, 1, 1, 1, 0, 1, 0, 0, 1, 0, 1, 1, 1, 0] (Try.f38.body.getD .skip)) (nav [1, 1, 1, 1, 1, 1, 1, 0, 1, 0, 0, 1, 0, 1, 1, 1, 1] (Try.f38.body.getD .skip))))) := by kernel_rfl

set_option maxHeartbeats 2000000 in
/-- THE GATHERING OF THE CHANGES. -/
theorem gather (hf : Z38D a (.slice ao N ca) (.slice bo M cb) mc bd) (hN : N ≤ 4096) (hM : M ≤ 4096) (c2 : w.cell? ⟨bd, 2, none⟩ = some (.slice (some ⟨br, 0, none⟩) N N)) (hR : w.rowIs br 4 N (fun i => .bool (R i))) (c3 : w.cell? ⟨bd, 3, none⟩ = some (.slice (some ⟨bad, 0, none⟩) M M)) (hD : w.rowIs bad 4 M (fun j => .bool (D j))) (hk : Plain.kept A R 0 N = Plain.kept B D 0 M)
    (hQ : ∀ a' w' so (F : List Plain.Ch) cs, a'.defers = [] → a'.tmps.getD 6 undef = .slice so F.length cs → ChSl w' so F → Plain.Gath A B R D N M N M F → Plain.Run R D N M N M F → Below w.heap.size w w' → Q .ret a' w') : Code.wp Try.prog (nav [1, 1, 1, 1, 1, 1] (Try.f38.body.getD .skip)) Q a w := by
  rw [code_P6]
  refine wp_seq (g7 hf fun a1 hf1 h11 => ?_)
  refine wp_seq ?_
  refine wp_seq (g8 (vf := .slice none 0 0) ⟨hf1, h11⟩ fun a2 hf2 => ?_)
  refine wp_block ?_
  refine wp_loop (fun a w' => ∃ i j F so cs, G38 a (.slice ao N ca) (.slice bo M cb) mc bd (.slice so F.length cs) i j ∧ i ≤ N ∧ j ≤ M ∧ (Plain.Gath A B R D N M i j F ∧ Plain.Run R D N M i j F) ∧ w'.ownsRow w.heap.size 47 4 (.slice so F.length cs) F.length (flat F) ∧ Below w.heap.size w w') (fun a _ => (N - (intOf (a.tmps.getD 12 undef)).toNat) + (M - (intOf (a.tmps.getD 13 undef)).toNat)) ⟨0, 0, [], none, 0, hf2, Nat.zero_le _, Nat.zero_le _, ⟨Plain.gath_start hk, .start⟩, World.ownsRow_nil _ _ _ _, Below.refl _ _⟩ ?_
  rintro a3 w3 ⟨i, j, F, so, cs, hf3, hi, hj, ⟨hg, hrun⟩, ho, hb⟩
  rw [code_LB]
  refine wp_seq ?_
  have d2 := cell_later hb c2
  have d3 := cell_later hb c3
  have rR : w3.rowIs br 4 N (fun i => .bool (R i)) := (kept_below hb).row hR id
  have rD : w3.rowIs bad 4 M (fun j => .bool (D j)) := (kept_below hb).row hD id
  by_cases hlt : i < N ∨ j < M
  · refine g9_in hf3 hlt fun a4 hf4 => ?_
    refine wp_block ?_
    rw [code_B1]
    refine wp_seq (g10 hf4 hN hM d2 d3 rR rD ?_ ?_)
    · intro a5 h1 h2 eR eD hf5
      refine ⟨⟨i + 1, j + 1, F, so, cs, hf5, h1, h2, ⟨(Plain.gath_hit hg h1 h2 eR eD).2, hrun.hit h1 h2 eR eD⟩, ho, hb⟩, ?_⟩
      rw [hf5.t12, hf5.t13, hf3.t12, hf3.t13]
      simp only [intOf]
      omega
    · intro a5 hno hf5
      refine wp_seq (g12 hf5 fun a6 hf6 => ?_)
      have hb6 : Below w.heap.size w (w3.alloc (Obj.cells #[.int .i64 (i : Int), .int .i64 0, .int .i64 (j : Int), .int .i64 0] 47)) := hb.alloc hb.size _
      refine wp_seq (g13 hf6 hN hi (cell_later hb6 c2) ((kept_below hb6).row hR id) fun a7 i' hf7 i1 i2 i3 i4 => ?_)
      refine wp_seq (g15 hf7 hM hj (cell_later hb6 c3) ((kept_below hb6).row hD id) fun a8 j' hf8 j1 j2 j3 j4 => ?_)
      have hln := Plain.len_bound hg.ok
      refine g17 hf8 hN hM i1 i2 j1 j2 (by omega) hb.size rfl ho fun a9 w9 so' cs' hf9 ho9 hb9 => ?_
      have hg' := Plain.gath_change hg hlt hno i1 i2 j1 j2 i3 j3 i4 j4
      refine ⟨⟨i', j', F ++ [⟨i, i' - i, j, j' - j⟩], so', cs', ?_, i2, j2, ⟨hg', hrun.change hlt hno i1 i2 j1 j2 i3 j3 i4 j4⟩, ?_, hb.trans hb9⟩, ?_⟩
      · rw [List.length_append]; exact hf9
      · rw [List.length_append]; exact ho9
      · rw [hf9.t12, hf9.t13, hf3.t12, hf3.t13]
        simp only [intOf]
        have := (Plain.gath_may hg hlt hno).2
        have hs : i < i' ∨ j < j' := by
          rcases this with ⟨q1, q2⟩ | ⟨q1, q2⟩
          · left
            rcases Nat.lt_or_ge i i' with h | h
            · exact h
            · obtain rfl : i' = i := by omega
              rcases i4 with h | h
              · omega
              · rw [q2] at h; cases h
          · right
            rcases Nat.lt_or_ge j j' with h | h
            · exact h
            · obtain rfl : j' = j := by omega
              rcases j4 with h | h
              · omega
              · rw [q2] at h; cases h
        omega
  · refine g9_out hf3 (by omega) (by omega) fun a4 hf4 => ?_
    obtain rfl : i = N := by omega
    obtain rfl : j = M := by omega
    refine g19 hf4 fun a5 hd h6 => ?_
    exact hQ a5 w3 so F cs hd h6 (ChSl.of_own ho) hg hrun hb
end
end Go.Proofs.Qxb6600330a
