import Derived.Test.Qxb6600330aGather
import Derived.Test.Qxb6600330aLine
import Derived.Test.Qxb6600330aCompare
namespace Go.Proofs.Qxb6600330a
open Go.RowKit
set_option linter.unusedVariables false

/-- Equal lines alone share a number. -/
def Inj (g : ByteArray → Int) (T U : Nat → ByteArray) (N M : Nat) : Prop :=
  ∀ s t, ((∃ i, i < N ∧ T i = s) ∨ ∃ j, j < M ∧ U j = s) → ((∃ i, i < N ∧ T i = t) ∨ ∃ j, j < M ∧ U j = t) → g s = g t → s = t

structure S38 (a : Act) (v0 v1 : Value) (mc : Nat) : Prop where
  sz : a.tmps.size = 149
  df : a.defers = []
  t0 : a.tmps.getD 0 undef = v0
  t1 : a.tmps.getD 1 undef = v1
  t2 : a.tmps.getD 2 undef = .int .i64 mc
structure S38C (a : Act) (va vb : Value) (mc sp : Nat) : Prop extends Z38 a va vb mc where
  t9 : a.tmps.getD 9 undef = .int .i64 sp
section
variable {Q : Exit → Act → World → Prop} {a : Act} {w : World} {ao bo : Option Addr} {N M ca cb mc sp bd : Nat} {v0 v1 va vb : Value}
set_option maxRecDepth 100000 in
set_option maxHeartbeats 1000000 in
theorem h0 (hf : S38 a v0 v1 mc) (hQ : ∀ a', S38 a' v0 v1 mc → Q .normal a' w) : Code.wp Try.prog (nav [0] (Try.f38.body.getD .skip)) Q a w := by
  have HQ := (show Hid _ from hQ)
  clear hQ
  refine lit149 (p := fun a => S38 a v0 v1 mc → Code.wp Try.prog (nav [0] (Try.f38.body.getD .skip)) Q a w) ?_ a hf.sz hf.df hf
  clear hf
  intro u0 u1 u2 _ _ _ _ _ _ _ _ _ _ _ _ _ _ _ _ _ _ _ _ _ _ _ _ _ _ _ _ _ _ _ _ _ _ _ _ _ _ _ _ _ _ _ _ _ _ _ _ _ _ _ _ _ _ _ _ _ _ _ _ _ _ _ _ _ _ _ _ _ _ _ _ _ _ _ _ _ _ _ _ _ _ _ _ _ _ _ _ _ _ _ _ _ _ _ _ _ _ _ _ _ _ _ _ _ _ _ _ _ _ _ _ _ _ _ _ _ _ _ _ _ _ _ _ _ _ _ _ _ _ _ _ _ _ _ _ _ _ _ _ _ _ _ _ _ _ hf
  have e0 := hf.t0
  have e1 := hf.t1
  have e2 := hf.t2
  clear hf
  change u0 = _ at e0; change u1 = _ at e1; change u2 = _ at e2
  subst e0 e1 e2
  conv => arg 2; whnf
  go_wp2
  exact HQ.out _ ⟨rfl, rfl, rfl, rfl, rfl⟩

set_option maxRecDepth 100000 in
set_option maxHeartbeats 1000000 in
theorem h1 {R2 : Value → Value → World → Prop} (hf : S38 a v0 v1 mc) (hcall : Calls Try.prog 43 #[v0, v1] w fun e w' => ∃ va vb, e = .returned (.tuple #[va, vb]) ∧ R2 va vb w') (hQ : ∀ a' w' va vb, Z38 a' va vb mc → R2 va vb w' → Q .normal a' w') : Code.wp Try.prog (nav [1, 0] (Try.f38.body.getD .skip)) Q a w := by
  have HC : Hid (Calls Try.prog 43 #[v0, v1] w fun e w' => ∃ va vb, e = .returned (.tuple #[va, vb]) ∧ R2 va vb w') := hcall
  clear hcall
  have HQ := (show Hid _ from hQ)
  clear hQ
  refine lit149 (p := fun a => S38 a v0 v1 mc → Code.wp Try.prog (nav [1, 0] (Try.f38.body.getD .skip)) Q a w) ?_ a hf.sz hf.df hf
  clear hf
  intro u0 u1 u2 _ _ _ _ _ _ _ _ _ _ _ _ _ _ _ _ _ _ _ _ _ _ _ _ _ _ _ _ _ _ _ _ _ _ _ _ _ _ _ _ _ _ _ _ _ _ _ _ _ _ _ _ _ _ _ _ _ _ _ _ _ _ _ _ _ _ _ _ _ _ _ _ _ _ _ _ _ _ _ _ _ _ _ _ _ _ _ _ _ _ _ _ _ _ _ _ _ _ _ _ _ _ _ _ _ _ _ _ _ _ _ _ _ _ _ _ _ _ _ _ _ _ _ _ _ _ _ _ _ _ _ _ _ _ _ _ _ _ _ _ _ _ _ _ _ _ hf
  have e0 := hf.t0
  have e1 := hf.t1
  have e2 := hf.t2
  clear hf
  change u0 = _ at e0; change u1 = _ at e1; change u2 = _ at e2
  subst e0 e1 e2
  conv => arg 2; whnf
  go_wp2_with (go_at_call 43; refine HC.out.mono ?_; rintro e w1 ⟨va, vb, rfl, hR⟩; have HR := (show Hid (R2 va vb w1) from hR); clear hR)
  exact HQ.out _ _ va vb ⟨rfl, rfl, rfl, rfl, rfl⟩ HR.out

set_option maxRecDepth 100000 in
set_option maxHeartbeats 1000000 in
theorem h2 (hf : Z38 a (.slice ao N ca) (.slice bo M cb) mc) (hN : N ≤ 4096) (hM : M ≤ 4096) (hQ : ∀ a', S38C a' (.slice ao N ca) (.slice bo M cb) mc ((N + M) / 2 + 1) → Q .normal a' w) : Code.wp Try.prog (nav [1, 1, 0] (Try.f38.body.getD .skip)) Q a w := by
  have e : ((N : Int) + M).tdiv 2 = (((N + M) / 2 : Nat) : Int) := by
    rw [Int.tdiv_eq_ediv_of_nonneg (by omega)]; omega
  have HQ := (show Hid _ from hQ)
  clear hQ
  refine lit149 (p := fun a => Z38 a (.slice ao N ca) (.slice bo M cb) mc → Code.wp Try.prog (nav [1, 1, 0] (Try.f38.body.getD .skip)) Q a w) ?_ a hf.sz hf.df hf
  clear hf
  intro _ _ u2 _ _ _ _ u7 u8 _ _ _ _ _ _ _ _ _ _ _ _ _ _ _ _ _ _ _ _ _ _ _ _ _ _ _ _ _ _ _ _ _ _ _ _ _ _ _ _ _ _ _ _ _ _ _ _ _ _ _ _ _ _ _ _ _ _ _ _ _ _ _ _ _ _ _ _ _ _ _ _ _ _ _ _ _ _ _ _ _ _ _ _ _ _ _ _ _ _ _ _ _ _ _ _ _ _ _ _ _ _ _ _ _ _ _ _ _ _ _ _ _ _ _ _ _ _ _ _ _ _ _ _ _ _ _ _ _ _ _ _ _ _ _ _ _ _ _ _ hf
  have e2 := hf.t2
  have e7 := hf.t7
  have e8 := hf.t8
  clear hf
  change u2 = _ at e2; change u7 = _ at e7; change u8 = _ at e8
  subst e2 e7 e8
  conv => arg 2; whnf
  go_wp2
  refine HQ.out _ ⟨⟨rfl, rfl, rfl, rfl, rfl⟩, ?_⟩
  show _ = _
  go_num

set_option maxRecDepth 100000 in
set_option maxHeartbeats 1000000 in
theorem h3 (hf : S38C a (.slice ao N ca) (.slice bo M cb) mc sp) (hQ : ∀ a', Z38 a' (.slice ao N ca) (.slice bo M cb) (min mc sp) → Q .normal a' w) : Code.wp Try.prog (nav [1, 1, 1, 0] (Try.f38.body.getD .skip)) Q a w := by
  have HQ := (show Hid _ from hQ)
  clear hQ
  refine lit149 (p := fun a => S38C a (.slice ao N ca) (.slice bo M cb) mc sp → Code.wp Try.prog (nav [1, 1, 1, 0] (Try.f38.body.getD .skip)) Q a w) ?_ a hf.sz hf.df hf
  clear hf
  intro _ _ u2 _ _ _ _ u7 u8 u9 _ _ _ _ _ _ _ _ _ _ _ _ _ _ _ _ _ _ _ _ _ _ _ _ _ _ _ _ _ _ _ _ _ _ _ _ _ _ _ _ _ _ _ _ _ _ _ _ _ _ _ _ _ _ _ _ _ _ _ _ _ _ _ _ _ _ _ _ _ _ _ _ _ _ _ _ _ _ _ _ _ _ _ _ _ _ _ _ _ _ _ _ _ _ _ _ _ _ _ _ _ _ _ _ _ _ _ _ _ _ _ _ _ _ _ _ _ _ _ _ _ _ _ _ _ _ _ _ _ _ _ _ _ _ _ _ _ _ _ hf
  have e2 := hf.t2
  have e7 := hf.t7
  have e8 := hf.t8
  have e9 := hf.t9
  clear hf
  change u2 = _ at e2; change u7 = _ at e7; change u8 = _ at e8; change u9 = _ at e9
  subst e2 e7 e8 e9
  conv => arg 2; whnf
  by_cases q : (sp : Int) < (mc : Int)
  · have e : Hid (min mc sp = sp) := (by omega : min mc sp = sp)
    go_wp2
    refine HQ.out _ ⟨rfl, rfl, ?_, rfl, rfl⟩
    rw [e.out]; rfl
  · have e : Hid (min mc sp = mc) := (by omega : min mc sp = mc)
    go_wp2
    refine HQ.out _ ⟨rfl, rfl, ?_, rfl, rfl⟩
    rw [e.out]; rfl

set_option maxRecDepth 100000 in
set_option maxHeartbeats 1000000 in
theorem h6 {R2 : World → Prop} (hf : Z38D a (.slice ao N ca) (.slice bo M cb) mc bd) (hcall : Calls Try.prog 35 #[.pointer (some ⟨bd, 0, none⟩), .int .i64 0, .int .i64 N, .int .i64 0, .int .i64 M] w fun e w' => e = .returned (.tuple #[]) ∧ R2 w')
    (hQ : ∀ a' w', Z38D a' (.slice ao N ca) (.slice bo M cb) mc bd → R2 w' → Q .normal a' w') : Code.wp Try.prog (nav [1, 1, 1, 1, 1, 0] (Try.f38.body.getD .skip)) Q a w := by
  have HC : Hid (Calls Try.prog 35 #[.pointer (some ⟨bd, 0, none⟩), .int .i64 0, .int .i64 N, .int .i64 0, .int .i64 M] w fun e w' => e = .returned (.tuple #[]) ∧ R2 w') := hcall
  clear hcall
  have HQ := (show Hid _ from hQ)
  clear hQ
  refine lit149 (p := fun a => Z38D a (.slice ao N ca) (.slice bo M cb) mc bd → Code.wp Try.prog (nav [1, 1, 1, 1, 1, 0] (Try.f38.body.getD .skip)) Q a w) ?_ a hf.sz hf.df hf
  clear hf
  intro _ _ u2 _ _ _ _ u7 u8 _ u10 _ _ _ _ _ _ _ _ _ _ _ _ _ _ _ _ _ _ _ _ _ _ _ _ _ _ _ _ _ _ _ _ _ _ _ _ _ _ _ _ _ _ _ _ _ _ _ _ _ _ _ _ _ _ _ _ _ _ _ _ _ _ _ _ _ _ _ _ _ _ _ _ _ _ _ _ _ _ _ _ _ _ _ _ _ _ _ _ _ _ _ _ _ _ _ _ _ _ _ _ _ _ _ _ _ _ _ _ _ _ _ _ _ _ _ _ _ _ _ _ _ _ _ _ _ _ _ _ _ _ _ _ _ _ _ _ _ _ hf
  have e2 := hf.t2
  have e7 := hf.t7
  have e8 := hf.t8
  have e10 := hf.t10
  clear hf
  change u2 = _ at e2; change u7 = _ at e7; change u8 = _ at e8; change u10 = _ at e10
  subst e2 e7 e8 e10
  conv => arg 2; whnf
  go_wp2_with (go_at_call 35; refine HC.out.mono ?_; rintro e w1 ⟨rfl, hR⟩; have HR := (show Hid (R2 w1) from hR); clear hR)
  exact HQ.out _ _ ⟨⟨rfl, rfl, rfl, rfl, rfl⟩, rfl⟩ HR.out

end
theorem code_B38 : Try.f38.body = some (.seq (nav [0] (Try.f38.body.getD .skip)) (.seq (nav [1, 0] (Try.f38.body.getD .skip)) (.seq (nav [1, 1, 0] (Try.f38.body.getD .skip)) (.seq (nav [1, 1, 1, 0] (Try.f38.body.getD .skip)) (.seq (nav [1, 1, 1, 1, 0] (Try.f38.body.getD .skip)) (.seq (nav [1, 1, 1, 1, 1, 0] (Try.f38.body.getD .skip)) (nav [1, 1, 1, 1, 1, 1] (Try.f38.body.getD .skip)))))))) := by kernel_rfl

/-- What changes answers: how the lines were numbered, which were marked, and the script gathered of it. -/
def RetC (w : World) (T U : Nat → ByteArray) (N M mc : Nat) (e : Ending) (w' : World) : Prop :=
  ∃ so F cs g R D, e = .returned (.slice so (F : List Plain.Ch).length cs) ∧ ChSl w' so F ∧ Below w.heap.size w w' ∧ Inj g T U N M ∧
    Plain.Cmp (fun i => g (T i)) (fun j => g (U j)) (min mc ((N + M) / 2 + 1)) 0 N 0 M (fun _ => false) (fun _ => false) R D ∧ Plain.Gath (fun i => g (T i)) (fun j => g (U j)) R D N M N M F ∧ Plain.Run R D N M N M F

theorem IntRow.of_row {w : World} {b l : Nat} {Z : Nat → Int} (h : w.rowIs b 3 l (fun i => .int .i64 (Z i))) : IntRow w b 0 l Z := fun i hi => by rw [Nat.zero_add]; exact h.cell hi

set_option maxHeartbeats 2000000 in
/-- **changes** -/
theorem changes_any (ao bo : Option Addr) (N c M d mc : Nat) (T U : Nat → ByteArray) (w : World) (hN : N ≤ 4096) (hM : M ≤ 4096) (hmc : 1 ≤ mc) (ha : StrSl w ao N T) (hb : StrSl w bo M U) (hsT : ∀ i, i < N → (T i).size ≤ maxLen) (hsU : ∀ i, i < M → (U i).size ≤ maxLen) :
    Calls Try.prog 38 #[.slice ao N c, .slice bo M d, .int .i64 mc] w (RetC w T U N M mc) := by
  refine calls_of_wp Try.func38 code_B38 ?_
  have hs : S38 { tmps := #[.slice ao N c, .slice bo M d, .int .i64 mc] ++ Array.replicate (Try.f38.ntmps - #[Value.slice ao N c, .slice bo M d, .int .i64 mc].size) undef, defers := [] } (.slice ao N c) (.slice bo M d) mc :=
    ⟨by kernel_rfl, rfl, by kernel_rfl, by kernel_rfl, by kernel_rfl⟩
  refine wp_seq (h0 hs fun a1 hf1 => ?_)
  refine wp_seq (h1 (R2 := fun va vb w' => ∃ ba bb g, va = .slice (some ⟨ba, 0, none⟩) N N ∧ vb = .slice (some ⟨bb, 0, none⟩) M M ∧ w'.rowIs ba 3 N (fun i => .int .i64 (g (T i))) ∧ w'.rowIs bb 3 M (fun j => .int .i64 (g (U j))) ∧ Inj g T U N M ∧ Below w.heap.size w w') hf1 ((lineIDs_any ao bo N c M d T U w hN hM ha hb hsT hsU).mono ?_) ?_)
  · rintro e w' ⟨ba, bb, g, rfl, h1, h2, h3, h4⟩
    exact ⟨_, _, rfl, ba, bb, g, rfl, rfl, h1, h2, h3, h4⟩
  rintro a2 w2 va vb hf2 ⟨ba, bb, g, rfl, rfl, rA, rB, inj, hb2⟩
  refine wp_seq (h2 hf2 hN hM fun a3 hf3 => ?_)
  refine wp_seq (h3 hf3 fun a4 hf4 => ?_)
  have hm1 : 1 ≤ min mc ((N + M) / 2 + 1) := by omega
  have hm2 : min mc ((N + M) / 2 + 1) ≤ 8500 := by omega
  unfold RetC
  generalize min mc ((N + M) / 2 + 1) = m at *
  refine wp_seq (zz38 hf4 hN hM hm2 fun a5 w5 bd br bad bf bk hf5 hn => ?_)
  have hge := hn.ge
  have k2 := kept_below hn.below
  have hcw : CW w5 bd (some ⟨ba, 0, none⟩) (some ⟨bb, 0, none⟩) br bad bf bk N M m (fun i => g (T i)) (fun j => g (U j)) (fun _ => false) (fun _ => false) := by
    refine ⟨hn.dw, ⟨_, _, hn.tw⟩, row_zeroBools hn.hr, row_zeroBools hn.ha, fun h0 => ?_, fun h0 => ?_, ?_⟩
    · have r := IntRow.of_row rA
      have la : ba < w2.heap.size := World.block_lt_of_cell? _ _ (r 0 h0)
      exact ⟨ba, rfl, r.kept k2 id, by omega, by omega, by omega, by omega⟩
    · have r := IntRow.of_row rB
      have lb : bb < w2.heap.size := World.block_lt_of_cell? _ _ (r 0 h0)
      exact ⟨bb, rfl, r.kept k2 id, by omega, by omega, by omega, by omega⟩
    · have := hn.ne
      exact ⟨this.1, this.2.1, this.2.2.1, this.2.2.2.1, this.2.2.2.2.1, this.2.2.2.2.2.1, this.2.2.2.2.2.2.1, this.2.2.2.2.2.2.2.1, this.2.2.2.2.2.2.2.2.1⟩
  have hcall := compare_any hN hM hm1 hm2 (N - 0 + (M - 0)) 0 N 0 M (fun _ => false) (fun _ => false) w5 (Nat.le_refl _) (Nat.zero_le _) (Nat.le_refl _) (Nat.zero_le _) (Nat.le_refl _) hcw (fun _ _ _ => rfl) (fun _ _ _ => rfl)
  refine wp_seq (h6 (R2 := fun w' => ∃ R' D', CW w' bd (some ⟨ba, 0, none⟩) (some ⟨bb, 0, none⟩) br bad bf bk N M m (fun i => g (T i)) (fun j => g (U j)) R' D' ∧ Kept (XC br bad bf bk) w5 w' ∧ Plain.Cmp (fun i => g (T i)) (fun j => g (U j)) m 0 N 0 M (fun _ => false) (fun _ => false) R' D') hf5 hcall ?_)
  rintro a6 w6 hf6 ⟨R, D, hw6, hk6, hcmp⟩
  refine gather hf6 hN hM hw6.d.c2 hw6.r hw6.d.c3 hw6.e hcmp.same fun a7 w7 so F cs hdf h6 hch hg hrun hb7 => ?_
  refine ⟨hdf, _, results_tmp (t := 6) rfl _ _ _, ?_⟩
  rw [h6]
  have q1 : Below w2.heap.size w5 w6 := hk6.below hn.below.size (fun k hk hx => by unfold XC at hx; omega)
  have q2 := (hn.below.trans q1).trans (hb7.mono (Nat.le_trans hn.below.size hk6.size))
  exact ⟨so, F, cs, g, R, D, rfl, hch, hb2.trans (q2.mono hb2.size), inj, hcmp, hg, hrun⟩

end Go.Proofs.Qxb6600330a
