import Derived.Test.Qxb6600330aMake
import Derived.Test.Qxb6600330aFrame
import Derived.Deep.RegionHeld3
import Derived.Deep.DrawnRows
namespace Go.Proofs.Qxb6600330a
open Go.RowKit
set_option linter.unusedVariables false
attribute [local go_sem ↓] Go.wp_at_zero Go.wp_at_succ

set_option maxRecDepth 100000 in
theorem lit42 {p : Act → Prop} (H : ∀ u0 u1 u2 u3 u4 u5 u6 u7 u8 u9 u10 u11 u12 u13 u14 u15 u16 u17 u18 u19 u20 u21 u22 u23 u24 u25 u26 u27 u28 u29 u30 u31 u32 u33 u34 u35 u36 u37 u38 u39 u40 u41 : Value, p ⟨List.toArray (u0 :: u1 :: u2 :: u3 :: u4 :: u5 :: u6 :: u7 :: u8 :: u9 :: u10 :: u11 :: u12 :: u13 :: u14 :: u15 :: u16 :: u17 :: u18 :: u19 :: u20 :: u21 :: u22 :: u23 :: u24 :: u25 :: u26 :: u27 :: u28 :: u29 :: u30 :: u31 :: u32 :: u33 :: u34 :: u35 :: u36 :: u37 :: u38 :: u39 :: u40 :: u41 :: []), []⟩) (a : Act) (hs : a.tmps.size = 42) (hd : a.defers = []) : p a := by
  obtain ⟨t, d⟩ := a
  simp only at hs hd
  subst hd
  have h := H (t.getD 0 undef) (t.getD 1 undef) (t.getD 2 undef) (t.getD 3 undef) (t.getD 4 undef) (t.getD 5 undef) (t.getD 6 undef) (t.getD 7 undef) (t.getD 8 undef) (t.getD 9 undef) (t.getD 10 undef) (t.getD 11 undef) (t.getD 12 undef) (t.getD 13 undef) (t.getD 14 undef) (t.getD 15 undef) (t.getD 16 undef) (t.getD 17 undef) (t.getD 18 undef) (t.getD 19 undef) (t.getD 20 undef) (t.getD 21 undef) (t.getD 22 undef) (t.getD 23 undef) (t.getD 24 undef) (t.getD 25 undef) (t.getD 26 undef) (t.getD 27 undef) (t.getD 28 undef) (t.getD 29 undef) (t.getD 30 undef) (t.getD 31 undef) (t.getD 32 undef) (t.getD 33 undef) (t.getD 34 undef) (t.getD 35 undef) (t.getD 36 undef) (t.getD 37 undef) (t.getD 38 undef) (t.getD 39 undef) (t.getD 40 undef) (t.getD 41 undef)
  have e : (List.map (fun i => t.getD i undef) (List.range 42)).toArray = t := tmps_lit t 42 hs
  have e2 : (List.map (fun i => t.getD i undef) (List.range 42)).toArray = List.toArray ((t.getD 0 undef) :: (t.getD 1 undef) :: (t.getD 2 undef) :: (t.getD 3 undef) :: (t.getD 4 undef) :: (t.getD 5 undef) :: (t.getD 6 undef) :: (t.getD 7 undef) :: (t.getD 8 undef) :: (t.getD 9 undef) :: (t.getD 10 undef) :: (t.getD 11 undef) :: (t.getD 12 undef) :: (t.getD 13 undef) :: (t.getD 14 undef) :: (t.getD 15 undef) :: (t.getD 16 undef) :: (t.getD 17 undef) :: (t.getD 18 undef) :: (t.getD 19 undef) :: (t.getD 20 undef) :: (t.getD 21 undef) :: (t.getD 22 undef) :: (t.getD 23 undef) :: (t.getD 24 undef) :: (t.getD 25 undef) :: (t.getD 26 undef) :: (t.getD 27 undef) :: (t.getD 28 undef) :: (t.getD 29 undef) :: (t.getD 30 undef) :: (t.getD 31 undef) :: (t.getD 32 undef) :: (t.getD 33 undef) :: (t.getD 34 undef) :: (t.getD 35 undef) :: (t.getD 36 undef) :: (t.getD 37 undef) :: (t.getD 38 undef) :: (t.getD 39 undef) :: (t.getD 40 undef) :: (t.getD 41 undef) :: []) := by kernel_rfl
  rw [← e2, e] at h
  exact h
/-- The frame ahead of the differ's making. -/
structure Z14 (a : Act) (va vb : Value) (mc : Nat) : Prop where
  sz : a.tmps.size = 42
  df : a.defers = []
  t0 : a.tmps.getD 0 undef = va
  t1 : a.tmps.getD 1 undef = vb
  t2 : a.tmps.getD 2 undef = .int .i64 mc
structure Z14D (a : Act) (va vb : Value) (mc bd : Nat) : Prop extends Z14 a va vb mc where
  t8 : a.tmps.getD 8 undef = .pointer (some ⟨bd, 0, none⟩)

set_option maxRecDepth 100000 in
set_option maxHeartbeats 8000000 in
theorem zz14 {Q : Exit → Act → World → Prop} {a : Act} {w : World} {ao bo : Option Addr} {N M ca cb mc : Nat} (hf : Z14 a (.slice ao N ca) (.slice bo M cb) mc) (h1 : N ≤ 4096) (h2 : M ≤ 4096) (h3 : mc ≤ 8500)
    (hQ : ∀ a' w' bd br bad bf bk, Z14D a' (.slice ao N ca) (.slice bo M cb) mc bd → NewD w w' (.slice ao N ca) (.slice bo M cb) N M mc bd br bad bf bk → Q .normal a' w') :
    Code.wp Try.prog (nav [1, 0] (Try.f14.body.getD .skip)) Q a w := by
  have mb1 := make_bools N (by omega)
  have mb2 := make_bools M (by omega)
  have mi := make_ints (2 * mc + 3) (by omega)
  rw [show ((2 * mc + 3 : Nat) : Int) = 2 * (mc : Int) + 3 from by omega] at mi
  have wr1 : IntKind.i64.wrap (2 * (mc : Int)) = 2 * mc := by rw [IntKind.wrap_i64]; omega
  have wr2 : IntKind.i64.wrap (2 * (mc : Int) + 3) = 2 * mc + 3 := by rw [IntKind.wrap_i64]; omega
  refine lit42 (p := fun a => Z14 a (.slice ao N ca) (.slice bo M cb) mc → Code.wp Try.prog (nav [1, 0] (Try.f14.body.getD .skip)) Q a w) ?_ a hf.sz hf.df hf
  clear hf
  intro u0 u1 u2 _ _ _ _ _ _ _ _ _ _ _ _ _ _ _ _ _ _ _ _ _ _ _ _ _ _ _ _ _ _ _ _ _ _ _ _ _ _ _ hf
  have e0 := hf.t0
  have e1 := hf.t1
  have e2 := hf.t2
  clear hf
  change u0 = _ at e0; change u1 = _ at e1; change u2 = _ at e2
  subst e0 e1 e2
  conv => arg 2; whnf
  go_region_held3 (fun _ => True) (trivial) (fail)
  all_goals
    refine hQ _ _ _ _ _ _ _ ⟨⟨rfl, rfl, rfl, rfl, rfl⟩, rfl⟩ ⟨heap5_4 _ _ _ _ _ _, ?_, ?_, ?_, ?_, by omega, by omega, heap5_below _ _ _ _ _ _⟩
    all_goals first | exact heap5_0 _ _ _ _ _ _ | exact heap5_1 _ _ _ _ _ _ | exact heap5_2 _ _ _ _ _ _ | exact heap5_3 _ _ _ _ _ _

end Go.Proofs.Qxb6600330a
