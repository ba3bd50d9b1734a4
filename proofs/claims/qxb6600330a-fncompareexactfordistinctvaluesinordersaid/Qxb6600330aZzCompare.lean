import Derived.Test.Qxb6600330aZz14
import Derived.Test.Qxb6600330aCompare
import Derived.Test.Qxb6600330aSmall2
import Derived.Test.Qxb6600330aLcsInt
namespace Go.Proofs.Qxb6600330a
open Go.RowKit
set_option linter.unusedVariables false

/-- A slice of ints from its block's head on, whatever its address where it is empty. -/
def CSl (w : World) (ao : Option Addr) (l : Nat) (Z : Nat → Int) : Prop := 0 < l → ∃ b, ao = some ⟨b, 0, none⟩ ∧ IntRow w b 0 l Z
theorem CSl.later {w w' : World} {ao : Option Addr} {l : Nat} {Z : Nat → Int} (h : CSl w ao l Z) (k : Below w.heap.size w w') : CSl w' ao l Z := fun h0 => by
  obtain ⟨b, e, r⟩ := h h0
  exact ⟨b, e, r.kept (kept_below k) id⟩
theorem CSl.sl {w : World} {ao : Option Addr} {l : Nat} {Z : Nat → Int} (h : CSl w ao l Z) : IntSl w ao l Z := fun h0 => by
  obtain ⟨b, e, r⟩ := h h0
  exact ⟨b, 0, e, r⟩

/-- An argument slice of ints, as the row reads it. -/
def ASl (w : World) (ao : Option Addr) (l c : Nat) (Z : Nat → Int) : Prop :=
  (ao = none ∧ l = 0 ∧ c = 0) ∨ ∃ ad : Addr, ao = some ad ∧ (∀ i, i < l → w.cell? ⟨ad.block, ad.off + i, none⟩ = some (.int .i64 (Z i))) ∧ (0 < l → ad.spot = none)
theorem ASl.sl {w : World} {ao : Option Addr} {l c : Nat} {Z : Nat → Int} (h : ASl w ao l c Z) : IntSl w ao l Z := fun h0 => by
  rcases h with ⟨_, h, _⟩ | ⟨ad, e, hc, hs⟩
  · omega
  · obtain ⟨b, o, s⟩ := ad
    obtain rfl : s = none := hs h0
    exact ⟨b, o, e, hc⟩
theorem ASl.later {w w' : World} {ao : Option Addr} {l c : Nat} {Z : Nat → Int} (h : ASl w ao l c Z) (k : Below w.heap.size w w') : ASl w' ao l c Z := by
  rcases h with h | ⟨ad, e, hc, hs⟩
  · exact .inl h
  · exact .inr ⟨ad, e, fun i hi => cell_later k (hc i hi), hs⟩

theorem clone_opt (ao : Option Addr) (l c : Nat) (Z : Nat → Int) (w : World) (hl : l ≤ 4096) (h : ASl w ao l c Z) :
    Calls Try.prog 13 #[.slice ao l c] w fun e w' => ∃ ao', e = .returned (.slice ao' l l) ∧ CSl w' ao' l Z ∧ Below w.heap.size w w' := by
  rcases h with ⟨rfl, rfl, rfl⟩ | ⟨ad, rfl, hc, hs⟩
  · refine (clone_nil w).mono ?_
    rintro e w' ⟨rfl, rfl⟩
    exact ⟨none, rfl, fun h => by omega, Below.refl _ _⟩
  · refine (clone_any ad l c Z w hl hc hs).mono ?_
    rintro e w' ⟨b, rfl, hr, hg, hb⟩
    exact ⟨_, rfl, fun _ => ⟨b, rfl, fun i hi => by rw [Nat.zero_add]; exact hr.cell hi⟩, hb⟩

section
variable {Q : Exit → Act → World → Prop} {a : Act} {w : World} {va vb : Value} {mc bd N M ca cb : Nat} {ao bo : Option Addr}
set_option maxRecDepth 100000 in
set_option maxHeartbeats 1000000 in
theorem q0 (hf : Z14 a va vb mc) (hQ : ∀ a', Z14 a' va vb mc → Q .normal a' w) : Code.wp Try.prog (nav [0] (Try.f14.body.getD .skip)) Q a w := by
  refine lit42 (p := fun a => Z14 a va vb mc → Code.wp Try.prog (nav [0] (Try.f14.body.getD .skip)) Q a w) ?_ a hf.sz hf.df hf
  clear hf
  intro u0 u1 u2 _ _ _ _ _ _ _ _ _ _ _ _ _ _ _ _ _ _ _ _ _ _ _ _ _ _ _ _ _ _ _ _ _ _ _ _ _ _ _ hf
  have e0 := hf.t0
  have e1 := hf.t1
  have e2 := hf.t2
  clear hf
  change u0 = _ at e0; change u1 = _ at e1; change u2 = _ at e2
  subst e0 e1 e2
  conv => arg 2; whnf
  go_wp2
  exact ⟨rfl, rfl, rfl, rfl, rfl⟩

set_option maxRecDepth 100000 in
set_option maxHeartbeats 1000000 in
theorem q2 {R2 : World → Prop} (hf : Z14D a (.slice ao N ca) (.slice bo M cb) mc bd) (hcall : Calls Try.prog 35 #[.pointer (some ⟨bd, 0, none⟩), .int .i64 0, .int .i64 N, .int .i64 0, .int .i64 M] w fun e w' => e = .returned (.tuple #[]) ∧ R2 w')
    (hQ : ∀ a' w', Z14D a' (.slice ao N ca) (.slice bo M cb) mc bd → R2 w' → Q .normal a' w') : Code.wp Try.prog (nav [1, 1, 0] (Try.f14.body.getD .skip)) Q a w := by
  have HC : Hid (Calls Try.prog 35 #[.pointer (some ⟨bd, 0, none⟩), .int .i64 0, .int .i64 N, .int .i64 0, .int .i64 M] w fun e w' => e = .returned (.tuple #[]) ∧ R2 w') := hcall
  clear hcall
  refine lit42 (p := fun a => Z14D a (.slice ao N ca) (.slice bo M cb) mc bd → Code.wp Try.prog (nav [1, 1, 0] (Try.f14.body.getD .skip)) Q a w) ?_ a hf.sz hf.df hf
  clear hf
  intro u0 u1 u2 _ _ _ _ _ u8 _ _ _ _ _ _ _ _ _ _ _ _ _ _ _ _ _ _ _ _ _ _ _ _ _ _ _ _ _ _ _ _ _ hf
  have e0 := hf.t0
  have e1 := hf.t1
  have e2 := hf.t2
  have e8 := hf.t8
  clear hf
  change u0 = _ at e0; change u1 = _ at e1; change u2 = _ at e2; change u8 = _ at e8
  subst e0 e1 e2 e8
  conv => arg 2; whnf
  go_wp2_with (go_at_call 35; refine HC.out.mono ?_; rintro e w1 ⟨rfl, hR⟩; have HR := (show Hid (R2 w1) from hR); clear hR)
  exact hQ _ _ ⟨⟨rfl, rfl, rfl, rfl, rfl⟩, rfl⟩ HR.out

set_option maxRecDepth 100000 in
set_option maxHeartbeats 1000000 in
theorem q3 {vr vd : Value} (hf : Z14D a va vb mc bd) (c2 : w.cell? ⟨bd, 2, none⟩ = some vr) (c3 : w.cell? ⟨bd, 3, none⟩ = some vd)
    (hQ : ∀ a' w', Below w.heap.size w w' → a'.defers = [] → a'.tmps.getD 6 undef = vr → a'.tmps.getD 7 undef = vd → Q .ret a' w') : Code.wp Try.prog (nav [1, 1, 1] (Try.f14.body.getD .skip)) Q a w := by
  have ne := ext_nonempty w
  have k2 := fun y => wext_cell w y c2
  have k3 := fun y => wext_cell w y c3
  clear c2 c3
  refine lit42 (p := fun a => Z14D a va vb mc bd → Code.wp Try.prog (nav [1, 1, 1] (Try.f14.body.getD .skip)) Q a w) ?_ a hf.sz hf.df hf
  clear hf
  intro u0 u1 u2 _ _ _ _ _ u8 _ _ _ _ _ _ _ _ _ _ _ _ _ _ _ _ _ _ _ _ _ _ _ _ _ _ _ _ _ _ _ _ _ hf
  have e0 := hf.t0
  have e1 := hf.t1
  have e2 := hf.t2
  have e8 := hf.t8
  clear hf
  change u0 = _ at e0; change u1 = _ at e1; change u2 = _ at e2; change u8 = _ at e8
  subst e0 e1 e2 e8
  conv => arg 2; whnf
  go_wp2_with fail
  refine wp_region_ext (by kernel_rfl) (by kernel_rfl) ?_
  repeat (go_big_quiet_step (fail))
  refine wpQuiet_nil ?_
  intro w1 hb1
  clear ne k2 k3
  have HB : Hid (Below w.heap.size w w1) := hb1
  clear hb1
  go_wp2
  exact hQ _ _ HB.out rfl rfl rfl

end
theorem code_B14 : Try.f14.body = some (.seq (nav [0] (Try.f14.body.getD .skip)) (.seq (nav [1, 0] (Try.f14.body.getD .skip)) (.seq (nav [1, 1, 0] (Try.f14.body.getD .skip)) (nav [1, 1, 1] (Try.f14.body.getD .skip))))) := by kernel_rfl

/-- **ZZCompare** -/
theorem zzcompare_any (ao bo : Option Addr) (N M mc : Nat) (A B : Nat → Int) (w : World) (hN : N ≤ 4096) (hM : M ≤ 4096) (hmc : 1 ≤ mc) (hmc' : mc ≤ 8500) (ha : CSl w ao N A) (hb : CSl w bo M B) :
    Calls Try.prog 14 #[.slice ao N N, .slice bo M M, .int .i64 mc] w fun e w' => ∃ br bad R D, e = .returned (.tuple #[.slice (some ⟨br, 0, none⟩) N N, .slice (some ⟨bad, 0, none⟩) M M]) ∧ w'.rowIs br 4 N (fun i => .bool (R i)) ∧ w'.rowIs bad 4 M (fun j => .bool (D j)) ∧ w.heap.size ≤ br ∧ w.heap.size ≤ bad ∧ br ≠ bad ∧ Plain.Cmp A B mc 0 N 0 M (fun _ => false) (fun _ => false) R D ∧ Below w.heap.size w w' := by
  refine calls_of_wp Try.func14 code_B14 ?_
  have hs : Z14 { tmps := #[.slice ao N N, .slice bo M M, .int .i64 mc] ++ Array.replicate (Try.f14.ntmps - #[Value.slice ao N N, .slice bo M M, .int .i64 mc].size) undef, defers := [] } (.slice ao N N) (.slice bo M M) mc :=
    ⟨by kernel_rfl, rfl, by kernel_rfl, by kernel_rfl, by kernel_rfl⟩
  refine wp_seq (q0 hs fun a1 hf1 => ?_)
  refine wp_seq (zz14 hf1 hN hM hmc' fun a2 w2 bd br bad bf bk hf2 hn => ?_)
  have hge := hn.ge
  have k2 := kept_below hn.below
  have hcw : CW w2 bd ao bo br bad bf bk N M mc A B (fun _ => false) (fun _ => false) := by
    refine ⟨hn.dw, ⟨_, _, hn.tw⟩, row_zeroBools hn.hr, row_zeroBools hn.ha, fun h0 => ?_, fun h0 => ?_, ?_⟩
    · obtain ⟨ba, e, r⟩ := ha h0
      have la : ba < w.heap.size := World.block_lt_of_cell? _ _ (r 0 h0)
      exact ⟨ba, e, r.kept k2 id, by omega, by omega, by omega, by omega⟩
    · obtain ⟨bb, e, r⟩ := hb h0
      have lb : bb < w.heap.size := World.block_lt_of_cell? _ _ (r 0 h0)
      exact ⟨bb, e, r.kept k2 id, by omega, by omega, by omega, by omega⟩
    · have := hn.ne
      exact ⟨this.1, this.2.1, this.2.2.1, this.2.2.2.1, this.2.2.2.2.1, this.2.2.2.2.2.1, this.2.2.2.2.2.2.1, this.2.2.2.2.2.2.2.1, this.2.2.2.2.2.2.2.2.1⟩
  have hcall := compare_any hN hM hmc hmc' (N - 0 + (M - 0)) 0 N 0 M (fun _ => false) (fun _ => false) w2 (Nat.le_refl _) (Nat.zero_le _) (Nat.le_refl _) (Nat.zero_le _) (Nat.le_refl _) hcw (fun _ _ _ => rfl) (fun _ _ _ => rfl)
  refine wp_seq (q2 (R2 := fun w' => ∃ R' D', CW w' bd ao bo br bad bf bk N M mc A B R' D' ∧ Kept (XC br bad bf bk) w2 w' ∧ Plain.Cmp A B mc 0 N 0 M (fun _ => false) (fun _ => false) R' D') hf2 hcall ?_)
  rintro a3 w3 hf3 ⟨R, D, hw3, hk3, hcmp⟩
  refine q3 hf3 hw3.d.c2 hw3.d.c3 fun a4 w4 hb4 hdf h6 h7 => ?_
  have k4 := kept_below hb4
  refine ⟨hdf, _, results_tmp2 (t := 6) (u := 7) rfl _ _ _, ?_⟩
  rw [h6, h7]
  refine ⟨br, bad, R, D, rfl, k4.row hw3.r id, k4.row hw3.e id, hge.2.1, hge.2.2.1, hn.ne.2.2.2.2.1, hcmp, ?_⟩
  have q1 : Below w.heap.size w2 w3 := hk3.below hn.below.size (fun k hk hx => by unfold XC at hx; omega)
  exact (hn.below.trans q1).trans (hb4.mono (Nat.le_trans hn.below.size hk3.size))

end Go.Proofs.Qxb6600330a
