import Derived.Test.Qxb6600330aZz21
import Derived.Test.Qxb6600330aSplit
namespace Go.Proofs.Qxb6600330a
open Go.RowKit
set_option linter.unusedVariables false
section
variable {Q : Exit → Act → World → Prop} {a : Act} {w : World} {va vb : Value} {mc bd alo ahi blo bhi : Nat}
set_option maxRecDepth 100000 in
set_option maxHeartbeats 1000000 in
theorem z0 (hf : Z21 a va vb mc alo ahi blo bhi) (hQ : ∀ a', Z21 a' va vb mc alo ahi blo bhi → Q .normal a' w) : Code.wp Try.prog (nav [0] (Try.f21.body.getD .skip)) Q a w := by
  refine lit44 (p := fun a => Z21 a va vb mc alo ahi blo bhi → Code.wp Try.prog (nav [0] (Try.f21.body.getD .skip)) Q a w) ?_ a hf.sz hf.df hf
  clear hf
  intro u0 u1 u2 u3 u4 u5 u6 _ _ _ _ _ _ _ _ _ _ _ _ _ _ _ _ _ _ _ _ _ _ _ _ _ _ _ _ _ _ _ _ _ _ _ _ _ hf
  have e0 := hf.t0
  have e1 := hf.t1
  have e2 := hf.t2
  have e3 := hf.t3
  have e4 := hf.t4
  have e5 := hf.t5
  have e6 := hf.t6
  clear hf
  change u0 = _ at e0; change u1 = _ at e1; change u2 = _ at e2; change u3 = _ at e3; change u4 = _ at e4; change u5 = _ at e5; change u6 = _ at e6
  subst e0 e1 e2 e3 e4 e5 e6
  conv => arg 2; whnf
  go_wp2
  exact ⟨rfl, rfl, rfl, rfl, rfl, rfl, rfl, rfl, rfl⟩

set_option maxRecDepth 100000 in
set_option maxHeartbeats 1000000 in
theorem z2 {R : Int → Int → World → Prop} (hf : Z21D a va vb mc bd alo ahi blo bhi) (hcall : Calls Try.prog 36 #[.pointer (some ⟨bd, 0, none⟩), .int .i64 alo, .int .i64 ahi, .int .i64 blo, .int .i64 bhi] w fun e w' => ∃ X Y : Int, e = .returned (.tuple #[.int .i64 X, .int .i64 Y]) ∧ R X Y w')
    (hQ : ∀ a' w' X Y, R X Y w' → a'.defers = [] → a'.tmps.getD 14 undef = .int .i64 X → a'.tmps.getD 15 undef = .int .i64 Y → Q .ret a' w') : Code.wp Try.prog (nav [1, 1] (Try.f21.body.getD .skip)) Q a w := by
  have HC : Hid (Calls Try.prog 36 #[.pointer (some ⟨bd, 0, none⟩), .int .i64 alo, .int .i64 ahi, .int .i64 blo, .int .i64 bhi] w fun e w' => ∃ X Y : Int, e = .returned (.tuple #[.int .i64 X, .int .i64 Y]) ∧ R X Y w') := hcall
  clear hcall
  refine lit44 (p := fun a => Z21D a va vb mc bd alo ahi blo bhi → Code.wp Try.prog (nav [1, 1] (Try.f21.body.getD .skip)) Q a w) ?_ a hf.sz hf.df hf
  clear hf
  intro u0 u1 u2 u3 u4 u5 u6 _ _ _ _ _ _ _ _ _ u16 _ _ _ _ _ _ _ _ _ _ _ _ _ _ _ _ _ _ _ _ _ _ _ _ _ _ _ hf
  have e0 := hf.t0
  have e1 := hf.t1
  have e2 := hf.t2
  have e3 := hf.t3
  have e4 := hf.t4
  have e5 := hf.t5
  have e6 := hf.t6
  have e16 := hf.t16
  clear hf
  change u0 = _ at e0; change u1 = _ at e1; change u2 = _ at e2; change u3 = _ at e3; change u4 = _ at e4; change u5 = _ at e5; change u6 = _ at e6; change u16 = _ at e16
  subst e0 e1 e2 e3 e4 e5 e6 e16
  conv => arg 2; whnf
  go_wp2_with (go_at_call 36; refine HC.out.mono ?_; rintro e w1 ⟨X, Y, rfl, hR⟩; have HR := (show Hid (R X Y w1) from hR); clear hR)
  exact hQ _ _ X Y HR.out rfl rfl rfl

end
theorem code_B21 : Try.f21.body = some (.seq (nav [0] (Try.f21.body.getD .skip)) (.seq (nav [1, 0] (Try.f21.body.getD .skip)) (nav [1, 1] (Try.f21.body.getD .skip)))) := by kernel_rfl

/-- **ZZSplit** of two rows of ints. -/
theorem zzsplit_any (ba bb N M mc alo ahi blo bhi : Nat) (A B : Nat → Int) (w : World) (hN : N ≤ 4096) (hM : M ≤ 4096) (hmc : 1 ≤ mc) (hmc' : mc ≤ 8500) (ha : alo < ahi) (ha' : ahi ≤ N) (hb : blo < bhi) (hb' : bhi ≤ M)
    (hra : IntRow w ba 0 N A) (hrb : IntRow w bb 0 M B)
    (h2 : 2 ≤ Plain.fewest (tab (fun i => A (alo + i)) (fun j => B (blo + j))) (ahi - alo) (bhi - blo)) :
    Calls Try.prog 21 #[.slice (some ⟨ba, 0, none⟩) N N, .slice (some ⟨bb, 0, none⟩) M M, .int .i64 mc, .int .i64 alo, .int .i64 ahi, .int .i64 blo, .int .i64 bhi] w fun e w' => ∃ X Y : Nat, e = .returned (.tuple #[.int .i64 ((alo + X : Nat) : Int), .int .i64 ((blo + Y : Nat) : Int)]) ∧
      Plain.Inside (tab (fun i => A (alo + i)) (fun j => B (blo + j))) (ahi - alo) (bhi - blo) mc X Y ∧ Below w.heap.size w w' := by
  refine calls_of_wp Try.func21 code_B21 ?_
  have hs : Z21 { tmps := #[.slice (some ⟨ba, 0, none⟩) N N, .slice (some ⟨bb, 0, none⟩) M M, .int .i64 mc, .int .i64 alo, .int .i64 ahi, .int .i64 blo, .int .i64 bhi] ++ Array.replicate (Try.f21.ntmps - #[Value.slice (some ⟨ba, 0, none⟩) N N, .slice (some ⟨bb, 0, none⟩) M M, .int .i64 mc, .int .i64 alo, .int .i64 ahi, .int .i64 blo, .int .i64 bhi].size) undef, defers := [] } (.slice (some ⟨ba, 0, none⟩) N N) (.slice (some ⟨bb, 0, none⟩) M M) mc alo ahi blo bhi :=
    ⟨by kernel_rfl, rfl, by kernel_rfl, by kernel_rfl, by kernel_rfl, by kernel_rfl, by kernel_rfl, by kernel_rfl, by kernel_rfl⟩
  have la : ba < w.heap.size := World.block_lt_of_cell? _ _ (hra 0 (by omega))
  have lb : bb < w.heap.size := World.block_lt_of_cell? _ _ (hrb 0 (by omega))
  refine wp_seq (z0 hs fun a1 hf1 => ?_)
  refine wp_seq (zz21 hf1 hN hM hmc' fun a2 w2 bd br bad bf bk hf2 hn => ?_)
  have hge := hn.ge
  have hne := hn.ne
  have k2 := kept_below hn.below
  have hcall := split_any bd ba bb bf bk N M mc alo ahi blo bhi _ _ A B _ _ w2 hN hM hmc hmc' ha ha' hb hb' hn.dw hn.tw (hra.kept k2 id) (hrb.kept k2 id) (by omega) (by omega) (by omega) h2
  refine z2 (R := fun X Y w' => ∃ X' Y' : Nat, X = ((alo + X' : Nat) : Int) ∧ Y = ((blo + Y' : Nat) : Int) ∧ Plain.Inside (tab (fun i => A (alo + i)) (fun j => B (blo + j))) (ahi - alo) (bhi - blo) mc X' Y' ∧ Below w.heap.size w w') hf2 (hcall.mono ?_) ?_
  · rintro e w' ⟨X, Y, rfl, hin, _, hk⟩
    refine ⟨_, _, rfl, X, Y, rfl, rfl, hin, hn.below.trans (hk.below hn.below.size ?_)⟩
    intro k hk'
    omega
  · rintro a3 w3 X Y ⟨X', Y', rfl, rfl, hin, hbl⟩ hdf h14 h15
    refine ⟨hdf, _, results_tmp2 (t := 14) (u := 15) rfl _ _ _, ?_⟩
    rw [h14, h15]
    exact ⟨X', Y', rfl, hin, hbl⟩

end Go.Proofs.Qxb6600330a
