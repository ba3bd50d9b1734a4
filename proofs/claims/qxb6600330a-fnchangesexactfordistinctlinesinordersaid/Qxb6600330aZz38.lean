import Derived.Test.Qxb6600330aMake
import Derived.Test.Qxb6600330aFrame
import Derived.Deep.RegionHeld3
import Derived.Deep.DrawnRows
namespace Go.Proofs.Qxb6600330a
open Go.RowKit
set_option linter.unusedVariables false
attribute [local go_sem ↓] Go.wp_at_zero Go.wp_at_succ

set_option maxRecDepth 100000 in
theorem lit149 {p : Act → Prop} (H : ∀ u0 u1 u2 u3 u4 u5 u6 u7 u8 u9 u10 u11 u12 u13 u14 u15 u16 u17 u18 u19 u20 u21 u22 u23 u24 u25 u26 u27 u28 u29 u30 u31 u32 u33 u34 u35 u36 u37 u38 u39 u40 u41 u42 u43 u44 u45 u46 u47 u48 u49 u50 u51 u52 u53 u54 u55 u56 u57 u58 u59 u60 u61 u62 u63 u64 u65 u66 u67 u68 u69 u70 u71 u72 u73 u74 u75 u76 u77 u78 u79 u80 u81 u82 u83 u84 u85 u86 u87 u88 u89 u90 u91 u92 u93 u94 u95 u96 u97 u98 u99 u100 u101 u102 u103 u104 u105 u106 u107 u108 u109 u110 u111 u112 u113 u114 u115 u116 u117 u118 u119 u120 u121 u122 u123 u124 u125 u126 u127 u128 u129 u130 u131 u132 u133 u134 u135 u136 u137 u138 u139 u140 u141 u142 u143 u144 u145 u146 u147 u148 : Value, p ⟨List.toArray (u0 :: u1 :: u2 :: u3 :: u4 :: u5 :: u6 :: u7 :: u8 :: u9 :: u10 :: u11 :: u12 :: u13 :: u14 :: u15 :: u16 :: u17 :: u18 :: u19 :: u20 :: u21 :: u22 :: u23 :: u24 :: u25 :: u26 :: u27 :: u28 :: u29 :: u30 :: u31 :: u32 :: u33 :: u34 :: u35 :: u36 :: u37 :: u38 :: u39 :: u40 :: u41 :: u42 :: u43 :: u44 :: u45 :: u46 :: u47 :: u48 :: u49 :: u50 :: u51 :: u52 :: u53 :: u54 :: u55 :: u56 :: u57 :: u58 :: u59 :: u60 :: u61 :: u62 :: u63 :: u64 :: u65 :: u66 :: u67 :: u68 :: u69 :: u70 :: u71 :: u72 :: u73 :: u74 :: u75 :: u76 :: u77 :: u78 :: u79 :: u80 :: u81 :: u82 :: u83 :: u84 :: u85 :: u86 :: u87 :: u88 :: u89 :: u90 :: u91 :: u92 :: u93 :: u94 :: u95 :: u96 :: u97 :: u98 :: u99 :: u100 :: u101 :: u102 :: u103 :: u104 :: u105 :: u106 :: u107 :: u108 :: u109 :: u110 :: u111 :: u112 :: u113 :: u114 :: u115 :: u116 :: u117 :: u118 :: u119 :: u120 :: u121 :: u122 :: u123 :: u124 :: u125 :: u126 :: u127 :: u128 :: u129 :: u130 :: u131 :: u132 :: u133 :: u134 :: u135 :: u136 :: u137 :: u138 :: u139 :: u140 :: u141 :: u142 :: u143 :: u144 :: u145 :: u146 :: u147 :: u148 :: []), []⟩) (a : Act) (hs : a.tmps.size = 149) (hd : a.defers = []) : p a := by
  obtain ⟨t, d⟩ := a
  simp only at hs hd
  subst hd
  have h := H (t.getD 0 undef) (t.getD 1 undef) (t.getD 2 undef) (t.getD 3 undef) (t.getD 4 undef) (t.getD 5 undef) (t.getD 6 undef) (t.getD 7 undef) (t.getD 8 undef) (t.getD 9 undef) (t.getD 10 undef) (t.getD 11 undef) (t.getD 12 undef) (t.getD 13 undef) (t.getD 14 undef) (t.getD 15 undef) (t.getD 16 undef) (t.getD 17 undef) (t.getD 18 undef) (t.getD 19 undef) (t.getD 20 undef) (t.getD 21 undef) (t.getD 22 undef) (t.getD 23 undef) (t.getD 24 undef) (t.getD 25 undef) (t.getD 26 undef) (t.getD 27 undef) (t.getD 28 undef) (t.getD 29 undef) (t.getD 30 undef) (t.getD 31 undef) (t.getD 32 undef) (t.getD 33 undef) (t.getD 34 undef) (t.getD 35 undef) (t.getD 36 undef) (t.getD 37 undef) (t.getD 38 undef) (t.getD 39 undef) (t.getD 40 undef) (t.getD 41 undef) (t.getD 42 undef) (t.getD 43 undef) (t.getD 44 undef) (t.getD 45 undef) (t.getD 46 undef) (t.getD 47 undef) (t.getD 48 undef) (t.getD 49 undef) (t.getD 50 undef) (t.getD 51 undef) (t.getD 52 undef) (t.getD 53 undef) (t.getD 54 undef) (t.getD 55 undef) (t.getD 56 undef) (t.getD 57 undef) (t.getD 58 undef) (t.getD 59 undef) (t.getD 60 undef) (t.getD 61 undef) (t.getD 62 undef) (t.getD 63 undef) (t.getD 64 undef) (t.getD 65 undef) (t.getD 66 undef) (t.getD 67 undef) (t.getD 68 undef) (t.getD 69 undef) (t.getD 70 undef) (t.getD 71 undef) (t.getD 72 undef) (t.getD 73 undef) (t.getD 74 undef) (t.getD 75 undef) (t.getD 76 undef) (t.getD 77 undef) (t.getD 78 undef) (t.getD 79 undef) (t.getD 80 undef) (t.getD 81 undef) (t.getD 82 undef) (t.getD 83 undef) (t.getD 84 undef) (t.getD 85 undef) (t.getD 86 undef) (t.getD 87 undef) (t.getD 88 undef) (t.getD 89 undef) (t.getD 90 undef) (t.getD 91 undef) (t.getD 92 undef) (t.getD 93 undef) (t.getD 94 undef) (t.getD 95 undef) (t.getD 96 undef) (t.getD 97 undef) (t.getD 98 undef) (t.getD 99 undef) (t.getD 100 undef) (t.getD 101 undef) (t.getD 102 undef) (t.getD 103 undef) (t.getD 104 undef) (t.getD 105 undef) (t.getD 106 undef) (t.getD 107 undef) (t.getD 108 undef) (t.getD 109 undef) (t.getD 110 undef) (t.getD 111 undef) (t.getD 112 undef) (t.getD 113 undef) (t.getD 114 undef) (t.getD 115 undef) (t.getD 116 undef) (t.getD 117 undef) (t.getD 118 undef) (t.getD 119 undef) (t.getD 120 undef) (t.getD 121 undef) (t.getD 122 undef) (t.getD 123 undef) (t.getD 124 undef) (t.getD 125 undef) (t.getD 126 undef) (t.getD 127 undef) (t.getD 128 undef) (t.getD 129 undef) (t.getD 130 undef) (t.getD 131 undef) (t.getD 132 undef) (t.getD 133 undef) (t.getD 134 undef) (t.getD 135 undef) (t.getD 136 undef) (t.getD 137 undef) (t.getD 138 undef) (t.getD 139 undef) (t.getD 140 undef) (t.getD 141 undef) (t.getD 142 undef) (t.getD 143 undef) (t.getD 144 undef) (t.getD 145 undef) (t.getD 146 undef) (t.getD 147 undef) (t.getD 148 undef)
  have e : (List.map (fun i => t.getD i undef) (List.range 149)).toArray = t := tmps_lit t 149 hs
  have e2 : (List.map (fun i => t.getD i undef) (List.range 149)).toArray = List.toArray ((t.getD 0 undef) :: (t.getD 1 undef) :: (t.getD 2 undef) :: (t.getD 3 undef) :: (t.getD 4 undef) :: (t.getD 5 undef) :: (t.getD 6 undef) :: (t.getD 7 undef) :: (t.getD 8 undef) :: (t.getD 9 undef) :: (t.getD 10 undef) :: (t.getD 11 undef) :: (t.getD 12 undef) :: (t.getD 13 undef) :: (t.getD 14 undef) :: (t.getD 15 undef) :: (t.getD 16 undef) :: (t.getD 17 undef) :: (t.getD 18 undef) :: (t.getD 19 undef) :: (t.getD 20 undef) :: (t.getD 21 undef) :: (t.getD 22 undef) :: (t.getD 23 undef) :: (t.getD 24 undef) :: (t.getD 25 undef) :: (t.getD 26 undef) :: (t.getD 27 undef) :: (t.getD 28 undef) :: (t.getD 29 undef) :: (t.getD 30 undef) :: (t.getD 31 undef) :: (t.getD 32 undef) :: (t.getD 33 undef) :: (t.getD 34 undef) :: (t.getD 35 undef) :: (t.getD 36 undef) :: (t.getD 37 undef) :: (t.getD 38 undef) :: (t.getD 39 undef) :: (t.getD 40 undef) :: (t.getD 41 undef) :: (t.getD 42 undef) :: (t.getD 43 undef) :: (t.getD 44 undef) :: (t.getD 45 undef) :: (t.getD 46 undef) :: (t.getD 47 undef) :: (t.getD 48 undef) :: (t.getD 49 undef) :: (t.getD 50 undef) :: (t.getD 51 undef) :: (t.getD 52 undef) :: (t.getD 53 undef) :: (t.getD 54 undef) :: (t.getD 55 undef) :: (t.getD 56 undef) :: (t.getD 57 undef) :: (t.getD 58 undef) :: (t.getD 59 undef) :: (t.getD 60 undef) :: (t.getD 61 undef) :: (t.getD 62 undef) :: (t.getD 63 undef) :: (t.getD 64 undef) :: (t.getD 65 undef) :: (t.getD 66 undef) :: (t.getD 67 undef) :: (t.getD 68 undef) :: (t.getD 69 undef) :: (t.getD 70 undef) :: (t.getD 71 undef) :: (t.getD 72 undef) :: (t.getD 73 undef) :: (t.getD 74 undef) :: (t.getD 75 undef) :: (t.getD 76 undef) :: (t.getD 77 undef) :: (t.getD 78 undef) :: (t.getD 79 undef) :: (t.getD 80 undef) :: (t.getD 81 undef) :: (t.getD 82 undef) :: (t.getD 83 undef) :: (t.getD 84 undef) :: (t.getD 85 undef) :: (t.getD 86 undef) :: (t.getD 87 undef) :: (t.getD 88 undef) :: (t.getD 89 undef) :: (t.getD 90 undef) :: (t.getD 91 undef) :: (t.getD 92 undef) :: (t.getD 93 undef) :: (t.getD 94 undef) :: (t.getD 95 undef) :: (t.getD 96 undef) :: (t.getD 97 undef) :: (t.getD 98 undef) :: (t.getD 99 undef) :: (t.getD 100 undef) :: (t.getD 101 undef) :: (t.getD 102 undef) :: (t.getD 103 undef) :: (t.getD 104 undef) :: (t.getD 105 undef) :: (t.getD 106 undef) :: (t.getD 107 undef) :: (t.getD 108 undef) :: (t.getD 109 undef) :: (t.getD 110 undef) :: (t.getD 111 undef) :: (t.getD 112 undef) :: (t.getD 113 undef) :: (t.getD 114 undef) :: (t.getD 115 undef) :: (t.getD 116 undef) :: (t.getD 117 undef) :: (t.getD 118 undef) :: (t.getD 119 undef) :: (t.getD 120 undef) :: (t.getD 121 undef) :: (t.getD 122 undef) :: (t.getD 123 undef) :: (t.getD 124 undef) :: (t.getD 125 undef) :: (t.getD 126 undef) :: (t.getD 127 undef) :: (t.getD 128 undef) :: (t.getD 129 undef) :: (t.getD 130 undef) :: (t.getD 131 undef) :: (t.getD 132 undef) :: (t.getD 133 undef) :: (t.getD 134 undef) :: (t.getD 135 undef) :: (t.getD 136 undef) :: (t.getD 137 undef) :: (t.getD 138 undef) :: (t.getD 139 undef) :: (t.getD 140 undef) :: (t.getD 141 undef) :: (t.getD 142 undef) :: (t.getD 143 undef) :: (t.getD 144 undef) :: (t.getD 145 undef) :: (t.getD 146 undef) :: (t.getD 147 undef) :: (t.getD 148 undef) :: []) := by kernel_rfl
  rw [← e2, e] at h
  exact h
/-- The frame ahead of the differ's making. -/
structure Z38 (a : Act) (va vb : Value) (mc : Nat) : Prop where
  sz : a.tmps.size = 149
  df : a.defers = []
  t2 : a.tmps.getD 2 undef = .int .i64 mc
  t7 : a.tmps.getD 7 undef = va
  t8 : a.tmps.getD 8 undef = vb
structure Z38D (a : Act) (va vb : Value) (mc bd : Nat) : Prop extends Z38 a va vb mc where
  t10 : a.tmps.getD 10 undef = .pointer (some ⟨bd, 0, none⟩)

set_option maxRecDepth 100000 in
set_option maxHeartbeats 8000000 in
theorem zz38 {Q : Exit → Act → World → Prop} {a : Act} {w : World} {ao bo : Option Addr} {N M ca cb mc : Nat} (hf : Z38 a (.slice ao N ca) (.slice bo M cb) mc) (h1 : N ≤ 4096) (h2 : M ≤ 4096) (h3 : mc ≤ 8500)
    (hQ : ∀ a' w' bd br bad bf bk, Z38D a' (.slice ao N ca) (.slice bo M cb) mc bd → NewD w w' (.slice ao N ca) (.slice bo M cb) N M mc bd br bad bf bk → Q .normal a' w') :
    Code.wp Try.prog (nav [1, 1, 1, 1, 0] (Try.f38.body.getD .skip)) Q a w := by
  have mb1 := make_bools N (by omega)
  have mb2 := make_bools M (by omega)
  have mi := make_ints (2 * mc + 3) (by omega)
  rw [show ((2 * mc + 3 : Nat) : Int) = 2 * (mc : Int) + 3 from by omega] at mi
  have wr1 : IntKind.i64.wrap (2 * (mc : Int)) = 2 * mc := by rw [IntKind.wrap_i64]; omega
  have wr2 : IntKind.i64.wrap (2 * (mc : Int) + 3) = 2 * mc + 3 := by rw [IntKind.wrap_i64]; omega
  refine lit149 (p := fun a => Z38 a (.slice ao N ca) (.slice bo M cb) mc → Code.wp Try.prog (nav [1, 1, 1, 1, 0] (Try.f38.body.getD .skip)) Q a w) ?_ a hf.sz hf.df hf
  clear hf
  intro _ _ u2 _ _ _ _ u7 u8 _ _ _ _ _ _ _ _ _ _ _ _ _ _ _ _ _ _ _ _ _ _ _ _ _ _ _ _ _ _ _ _ _ _ _ _ _ _ _ _ _ _ _ _ _ _ _ _ _ _ _ _ _ _ _ _ _ _ _ _ _ _ _ _ _ _ _ _ _ _ _ _ _ _ _ _ _ _ _ _ _ _ _ _ _ _ _ _ _ _ _ _ _ _ _ _ _ _ _ _ _ _ _ _ _ _ _ _ _ _ _ _ _ _ _ _ _ _ _ _ _ _ _ _ _ _ _ _ _ _ _ _ _ _ _ _ _ _ _ _ hf
  have e2 := hf.t2
  have e7 := hf.t7
  have e8 := hf.t8
  clear hf
  change u2 = _ at e2; change u7 = _ at e7; change u8 = _ at e8
  subst e2 e7 e8
  conv => arg 2; whnf
  go_region_held3 (fun _ => True) (trivial) (fail)
  all_goals
    refine hQ _ _ _ _ _ _ _ ⟨⟨rfl, rfl, rfl, rfl, rfl⟩, rfl⟩ ⟨heap5_4 _ _ _ _ _ _, ?_, ?_, ?_, ?_, by omega, by omega, heap5_below _ _ _ _ _ _⟩
    all_goals first | exact heap5_0 _ _ _ _ _ _ | exact heap5_1 _ _ _ _ _ _ | exact heap5_2 _ _ _ _ _ _ | exact heap5_3 _ _ _ _ _ _

end Go.Proofs.Qxb6600330a
