import Derived.Test.Qxb6600330aCmp2
import Derived.Test.Qxb6600330aSplit
namespace Go.Proofs.Qxb6600330a
open Go.RowKit
set_option linter.unusedVariables false

theorem code_B35 : Try.f35.body = some (.block 0 (.loop (.block 1 (.seq (nav [0, 0, 0, 0] (Try.f35.body.getD .skip)) (.seq (nav [0, 0, 0, 1, 0] (Try.f35.body.getD .skip)) (.seq (nav [0, 0, 0, 1, 1, 0] (Try.f35.body.getD .skip)) (.seq (nav [0, 0, 0, 1, 1, 1, 0] (Try.f35.body.getD .skip)) (.seq (nav [0, 0, 0, 1, 1, 1, 1, 0] (Try.f35.body.getD .skip)) (.seq (nav [0, 0, 0, 1, 1, 1, 1, 1, 0] (Try.f35.body.getD .skip)) (nav [0, 0, 0, 1, 1, 1, 1, 1, 1] (Try.f35.body.getD .skip)))))))))))  := by kernel_rfl

theorem ret35 {R : Ending → World → Prop} {a : Act} {w : World} (hd : a.defers = []) (h : R (.returned (.tuple #[])) w) : bodyPost Try.prog Try.f35 R .ret a w := by
  refine ⟨hd, .tuple #[], ?_, h⟩

  simp [results]

/-- How much is left. -/
def left35 (a : Act) : Nat := (intOf (a.tmps.getD 2 undef) - intOf (a.tmps.getD 1 undef) + (intOf (a.tmps.getD 4 undef) - intOf (a.tmps.getD 3 undef))).toNat
theorem left35_eq {a : Act} {bd alo ahi blo bhi : Nat} (h : C35 a bd alo ahi blo bhi) : left35 a = ((ahi : Int) - alo + ((bhi : Int) - blo)).toNat := by
  unfold left35
  rw [h.t1, h.t2, h.t3, h.t4]
  rfl

section
variable {bd br bad bf bk N M mc : Nat} {ao bo : Option Addr} {A B : Nat → Int}

set_option maxHeartbeats 2000000 in
/-- **compare**: what it marks. -/
theorem compare_any (hN : N ≤ 4096) (hM : M ≤ 4096) (hmc : 1 ≤ mc) (hmc' : mc ≤ 8500) (k : Nat) : ∀ (alo ahi blo bhi : Nat) (R D : Nat → Bool) (w : World), (ahi - alo) + (bhi - blo) ≤ k → alo ≤ ahi → ahi ≤ N → blo ≤ bhi → bhi ≤ M →
    CW w bd ao bo br bad bf bk N M mc A B R D → (∀ i, alo ≤ i → i < ahi → R i = false) → (∀ j, blo ≤ j → j < bhi → D j = false) →
    Calls Try.prog 35 #[.pointer (some ⟨bd, 0, none⟩), .int .i64 alo, .int .i64 ahi, .int .i64 blo, .int .i64 bhi] w fun e w' => e = .returned (.tuple #[]) ∧ ∃ R' D', CW w' bd ao bo br bad bf bk N M mc A B R' D' ∧ Kept (XC br bad bf bk) w w' ∧ Plain.Cmp A B mc alo ahi blo bhi R D R' D' := by
  induction k with
  | zero =>
    intro alo ahi blo bhi R D w hk ha ha' hb hb' hw hR hD
    refine calls_of_wp Try.func35 code_B35 ?_
    have hs : C35 { tmps := #[.pointer (some ⟨bd, 0, none⟩), .int .i64 alo, .int .i64 ahi, .int .i64 blo, .int .i64 bhi] ++ Array.replicate (Try.f35.ntmps - #[Value.pointer (some ⟨bd, 0, none⟩), .int .i64 alo, .int .i64 ahi, .int .i64 blo, .int .i64 bhi].size) undef, defers := [] } bd alo ahi blo bhi :=
      ⟨by kernel_rfl, rfl, by kernel_rfl, by kernel_rfl, by kernel_rfl, by kernel_rfl, by kernel_rfl⟩
    refine wp_block ?_
    refine wp_loop (fun a w' => a = _ ∧ w' = w) (fun _ _ => 0) ⟨rfl, rfl⟩ ?_
    rintro a w' ⟨rfl, rfl⟩
    refine wp_block ?_
    refine wp_seq (c2 hs hw hN hM ha ha' hb hb' fun a1 w1 t hf1 hb1 hall ht1 ht2 hno1 => ?_)
    obtain rfl : t = 0 := by omega
    refine wp_seq (c4 hf1 (hw.below hb1) hN hM (by omega) ha' (by omega) hb' fun a2 w2 s hf2 hb2 hall2 hs1 hs2 hno2 => ?_)
    obtain rfl : s = 0 := by omega
    have hw2 := (hw.below hb1).below hb2
    refine wp_seq (c5 hf2 hw2 hN hM (by omega) (by omega) (by omega) (by omega) (by omega) fun a3 w3 hd3 hw3 hk3 => ?_)
    dsimp only [Exit.then, Exit.inBlock]
    refine ret35 hd3 ⟨rfl, _, _, hw3, ((Kept.of_below hb1).trans (Kept.of_below hb2)).trans hk3, ?_⟩
    refine Plain.cmp_added (by omega) (fun i => rfl) (fun j hj => ?_) (fun j h1 h2 => by omega)
    unfold markB; rw [if_neg (by omega)]
  | succ k ih =>
    intro a0 a1 b0 b1 R0 D0 w0 hk ha0 ha1 hb0 hb1 hw0 hR0 hD0
    refine calls_of_wp Try.func35 code_B35 ?_
    have hs : C35 { tmps := #[.pointer (some ⟨bd, 0, none⟩), .int .i64 a0, .int .i64 a1, .int .i64 b0, .int .i64 b1] ++ Array.replicate (Try.f35.ntmps - #[Value.pointer (some ⟨bd, 0, none⟩), .int .i64 a0, .int .i64 a1, .int .i64 b0, .int .i64 b1].size) undef, defers := [] } bd a0 a1 b0 b1 :=
      ⟨by kernel_rfl, rfl, by kernel_rfl, by kernel_rfl, by kernel_rfl, by kernel_rfl, by kernel_rfl⟩
    refine wp_block ?_
    refine wp_loop (fun a w => ∃ alo ahi blo bhi R D, C35 a bd alo ahi blo bhi ∧ CW w bd ao bo br bad bf bk N M mc A B R D ∧ Kept (XC br bad bf bk) w0 w ∧ Plain.Done A B mc a0 a1 b0 b1 R0 D0 alo ahi blo bhi R D ∧ (∀ i, alo ≤ i → i < ahi → R i = false) ∧ (∀ j, blo ≤ j → j < bhi → D j = false) ∧ alo ≤ ahi ∧ ahi ≤ N ∧ blo ≤ bhi ∧ bhi ≤ M ∧ (ahi - alo) + (bhi - blo) ≤ k + 1) (fun a _ => left35 a)
      ⟨a0, a1, b0, b1, R0, D0, hs, hw0, Kept.refl _ _, fun _ _ h => h, hR0, hD0, ha0, ha1, hb0, hb1, hk⟩ ?_
    clear hs hw0 hR0 hD0
    rintro a w ⟨alo, ahi, blo, bhi, R, D, hf, hw, hkp, hdone, hR, hD, ha, ha', hb, hb', hsz⟩
    refine wp_block ?_
    refine wp_seq (c2 hf hw hN hM ha ha' hb hb' fun a1' w1 t hf1 hb1' hall ht1 ht2 hno1 => ?_)
    have hw1 := hw.below hb1'
    have hd1 := Plain.done_first t hdone hall ht1 ht2 hR hD
    refine wp_seq (c4 hf1 hw1 hN hM (by omega) ha' (by omega) hb' fun a2 w2 s hf2 hb2 hall2 hs1 hs2 hno2 => ?_)
    have hw2 := hw1.below hb2
    have hd2 := Plain.done_last s hd1 hall2 hs1 hs2 (fun i q1 q2 => hR i (by omega) q2) (fun j q1 q2 => hD j (by omega) q2)
    have hkp2 := (hkp.trans (Kept.of_below hb1')).trans (Kept.of_below hb2)
    obtain ⟨p, ep⟩ : ∃ p, p = alo + t := ⟨_, rfl⟩
    obtain ⟨q, eq⟩ : ∃ q, q = ahi - s := ⟨_, rfl⟩
    obtain ⟨u, eu⟩ : ∃ u, u = blo + t := ⟨_, rfl⟩
    obtain ⟨v, ev⟩ : ∃ v, v = bhi - s := ⟨_, rfl⟩
    rw [← ep, ← eq, ← eu, ← ev] at hf2 hd2
    have hR2 : ∀ i, p ≤ i → i < q → R i = false := fun i q1 q2 => hR i (by omega) (by omega)
    have hD2 : ∀ j, u ≤ j → j < v → D j = false := fun j q1 q2 => hD j (by omega) (by omega)
    by_cases e1 : p = q
    · refine wp_seq (c5 hf2 hw2 hN hM (by omega) (by omega) (by omega) (by omega) e1 fun a3 w3 hd3 hw3 hk3 => ?_)
      dsimp only [Exit.then, Exit.inBlock]
      refine ret35 hd3 ⟨rfl, _, _, hw3, hkp2.trans hk3, hd2 _ _ ?_⟩
      refine Plain.cmp_added e1 (fun i => rfl) (fun j hj => ?_) (fun j h1 h2 => ?_)
      · unfold markB; rw [if_neg hj]
      · unfold markB; rw [if_pos ⟨h1, h2⟩]
    · refine wp_seq (c5_no hf2 (by omega) fun a3 hf3 => ?_)
      by_cases e2 : u = v
      · refine wp_seq (c9 hf3 hw2 hN hM (by omega) (by omega) (by omega) (by omega) e2 fun a4 w4 hd4 hw4 hk4 => ?_)
        dsimp only [Exit.then, Exit.inBlock]
        refine ret35 hd4 ⟨rfl, _, _, hw4, hkp2.trans hk4, hd2 _ _ ?_⟩
        refine Plain.cmp_removed e2 (fun i => rfl) (fun j hj => ?_) (fun j h1 h2 => ?_)
        · unfold markB; rw [if_neg hj]
        · unfold markB; rw [if_pos ⟨h1, h2⟩]
      · refine wp_seq (c9_no hf3 (by omega) fun a4 hf4 => ?_)
        have n1 : ¬ A p = B u := fun e => hno1 ⟨by omega, by omega, by rw [← ep, ← eu]; exact e⟩
        have n2 : ¬ A (q - 1) = B (v - 1) := fun e => hno2 ⟨by omega, by omega, by rw [← eq, ← ev]; exact e⟩
        have h2 : 2 ≤ Plain.fewest (tab (fun i => A (p + i)) (fun j => B (u + j))) (q - p) (v - u) := by
          refine Plain.fewest_two (by omega) (by omega) ?_ ?_
          · rw [tab_true]; exact n1
          · rw [tab_true, show p + (q - p - 1) = q - 1 from by omega, show u + (v - u - 1) = v - 1 from by omega]; exact n2
        have z1 : p < q := by omega
        have z2 : q ≤ N := by omega
        have z3 : u < v := by omega
        have z4 : v ≤ M := by omega
        have z5 : 0 < N := by omega
        have z6 : 0 < M := by omega
        clear n1 n2 hno1 hno2 hall hall2
        obtain ⟨ba, rfl, ra, na⟩ := hw2.a z5
        have NA : Hid (ba ≠ br ∧ ba ≠ bad ∧ ba ≠ bf ∧ ba ≠ bk) := na
        clear na
        obtain ⟨bb, rfl, rb, nb⟩ := hw2.b z6
        have NB : Hid (bb ≠ br ∧ bb ≠ bad ∧ bb ≠ bf ∧ bb ≠ bk) := nb
        clear nb
        obtain ⟨F, G, htw⟩ := hw2.t
        have hcall := split_any bd ba bb bf bk N M mc p q u v _ _ A B F G w2 hN hM hmc hmc' z1 z2 z3 z4 hw2.d htw ra rb (fun h => h.elim hw2.ne.2.2.1 hw2.ne.2.2.2.1) (fun h => h.elim NA.out.2.2.1 NA.out.2.2.2) (fun h => h.elim NB.out.2.2.1 NB.out.2.2.2) h2
        clear ra rb htw h2
        refine wp_seq (c14 (R2 := fun X Y w' => ∃ X' Y' : Nat, X = p + X' ∧ Y = u + Y' ∧ Plain.Inside (Plain.bx A B p u) (q - p) (v - u) mc X' Y' ∧ CW w' bd (some ⟨ba, 0, none⟩) (some ⟨bb, 0, none⟩) br bad bf bk N M mc A B R D ∧ Kept (XC br bad bf bk) w2 w') hf4 (hcall.mono ?_) ?_)
        · rintro e w' ⟨X, Y, rfl, hin, ⟨F', G', ht'⟩, hkk⟩
          exact ⟨p + X, u + Y, rfl, X, Y, rfl, rfl, hin, hw2.tables hkk ht', hkk.mono fun k _ hx => by unfold XC; omega⟩
        · rintro a5 w5 _ _ hf5 ⟨X, Y, rfl, rfl, hin, hw5, hkp5⟩
          have hin' := hin
          obtain ⟨i1, i2, i3, i4, _⟩ := hin'
          have hrec := ih p (p + X) u (u + Y) R D w5 (by omega) (by omega) (by omega) (by omega) (by omega) hw5 (fun i q1 q2 => hR2 i q1 (by omega)) (fun j q1 q2 => hD2 j q1 (by omega))
          refine wp_seq (c15 (R2 := fun w' => ∃ R' D', CW w' bd (some ⟨ba, 0, none⟩) (some ⟨bb, 0, none⟩) br bad bf bk N M mc A B R' D' ∧ Kept (XC br bad bf bk) w5 w' ∧ Plain.Cmp A B mc p (p + X) u (u + Y) R D R' D') hf5 hrec ?_)
          rintro a6 w6 hf6 ⟨R1, D1, hw6, hkp6, hcmp⟩
          refine c16 hf6 fun a7 hf7 => ?_
          refine ⟨⟨p + X, q, u + Y, v, R1, D1, hf7, hw6, (hkp2.trans hkp5).trans hkp6, ?_, ?_, ?_, by omega, by omega, by omega, by omega, by omega⟩, ?_⟩
          · intro R' D' hc
            exact hd2 _ _ (Plain.cmp_split (by omega) (by omega) hin hcmp hc)
          · intro i q1 q2
            rw [hcmp.outR i (by omega)]; exact hR2 i (by omega) q2
          · intro j q1 q2
            rw [hcmp.outD j (by omega)]; exact hD2 j (by omega) q2
          · rw [left35_eq hf7, left35_eq hf]
            omega
end
end Go.Proofs.Qxb6600330a
