import Derived.Test.Qxb6600330aFwd
import Derived.Test.Qxb6600330aSlide
import Derived.Test.Qxb6600330aMeet
import Derived.Test.Qxb6600330aBwd
import Derived.Test.Qxb6600330aBwd2
import Derived.Test.Qxb6600330aCtl
namespace Go.Proofs.Qxb6600330a
open Go.RowKit
set_option linter.unusedVariables false

theorem code_FB : (nav [1, 1, 1, 1, 0, 1, 0, 0, 1, 0, 0, 1, 0, 1, 0, 0] (Try.f36.body.getD .skip)) = (.seq (nav [1, 1, 1, 1, 0, 1, 0, 0, 1, 0, 0, 1, 0, 1, 0, 0, 0] (Try.f36.body.getD .skip)) (.seq (.block 3 (nav [1, 1, 1, 1, 0, 1, 0, 0, 1, 0, 0, 1, 0, 1, 0, 0, 1, 0, 0] (Try.f36.body.getD .skip))) (nav [1, 1, 1, 1, 0, 1, 0, 0, 1, 0, 0, 1, 0, 1, 0, 0, 1, 1] (Try.f36.body.getD .skip)))) := by kernel_rfl
theorem code_FS : (nav [1, 1, 1, 1, 0, 1, 0, 0, 1, 0, 0, 1, 0, 1, 0, 0, 1, 0, 0] (Try.f36.body.getD .skip)) = (.seq (nav [1, 1, 1, 1, 0, 1, 0, 0, 1, 0, 0, 1, 0, 1, 0, 0, 1, 0, 0, 0] (Try.f36.body.getD .skip)) (.seq (nav [1, 1, 1, 1, 0, 1, 0, 0, 1, 0, 0, 1, 0, 1, 0, 0, 1, 0, 0, 1, 0] (Try.f36.body.getD .skip)) (.seq (nav [1, 1, 1, 1, 0, 1, 0, 0, 1, 0, 0, 1, 0, 1, 0, 0, 1, 0, 0, 1, 1, 0] (Try.f36.body.getD .skip)) (.seq (nav [1, 1, 1, 1, 0, 1, 0, 0, 1, 0, 0, 1, 0, 1, 0, 0, 1, 0, 0, 1, 1, 1, 0] (Try.f36.body.getD .skip)) (.seq (nav [1, 1, 1, 1, 0, 1, 0, 0, 1, 0, 0, 1, 0, 1, 0, 0, 1, 0, 0, 1, 1, 1, 1, 0] (Try.f36.body.getD .skip)) (.seq (nav [1, 1, 1, 1, 0, 1, 0, 0, 1, 0, 0, 1, 0, 1, 0, 0, 1, 0, 0, 1, 1, 1, 1, 1, 0] (Try.f36.body.getD .skip)) (nav [1, 1, 1, 1, 0, 1, 0, 0, 1, 0, 0, 1, 0, 1, 0, 0, 1, 0, 0, 1, 1, 1, 1, 1, 1] (Try.f36.body.getD .skip)))))))) := by kernel_rfl
theorem code_BB : (nav [1, 1, 1, 1, 0, 1, 0, 0, 1, 0, 0, 1, 1, 1, 1, 0, 0] (Try.f36.body.getD .skip)) = (.seq (nav [1, 1, 1, 1, 0, 1, 0, 0, 1, 0, 0, 1, 1, 1, 1, 0, 0, 0] (Try.f36.body.getD .skip)) (.seq (.block 7 (nav [1, 1, 1, 1, 0, 1, 0, 0, 1, 0, 0, 1, 1, 1, 1, 0, 0, 1, 0, 0] (Try.f36.body.getD .skip))) (nav [1, 1, 1, 1, 0, 1, 0, 0, 1, 0, 0, 1, 1, 1, 1, 0, 0, 1, 1] (Try.f36.body.getD .skip)))) := by kernel_rfl
theorem code_BS : (nav [1, 1, 1, 1, 0, 1, 0, 0, 1, 0, 0, 1, 1, 1, 1, 0, 0, 1, 0, 0] (Try.f36.body.getD .skip)) = (.seq (nav [1, 1, 1, 1, 0, 1, 0, 0, 1, 0, 0, 1, 1, 1, 1, 0, 0, 1, 0, 0, 0] (Try.f36.body.getD .skip)) (.seq (nav [1, 1, 1, 1, 0, 1, 0, 0, 1, 0, 0, 1, 1, 1, 1, 0, 0, 1, 0, 0, 1, 0] (Try.f36.body.getD .skip)) (.seq (nav [1, 1, 1, 1, 0, 1, 0, 0, 1, 0, 0, 1, 1, 1, 1, 0, 0, 1, 0, 0, 1, 1, 0] (Try.f36.body.getD .skip)) (.seq (nav [1, 1, 1, 1, 0, 1, 0, 0, 1, 0, 0, 1, 1, 1, 1, 0, 0, 1, 0, 0, 1, 1, 1, 0] (Try.f36.body.getD .skip)) (.seq (nav [1, 1, 1, 1, 0, 1, 0, 0, 1, 0, 0, 1, 1, 1, 1, 0, 0, 1, 0, 0, 1, 1, 1, 1, 0] (Try.f36.body.getD .skip)) (.seq (nav [1, 1, 1, 1, 0, 1, 0, 0, 1, 0, 0, 1, 1, 1, 1, 0, 0, 1, 0, 0, 1, 1, 1, 1, 1, 0] (Try.f36.body.getD .skip)) (nav [1, 1, 1, 1, 0, 1, 0, 0, 1, 0, 0, 1, 1, 1, 1, 0, 0, 1, 0, 0, 1, 1, 1, 1, 1, 1] (Try.f36.body.getD .skip)))))))) := by kernel_rfl
theorem code_C1 : (nav [1, 1, 1, 1, 0, 1, 0, 0, 1, 0, 0] (Try.f36.body.getD .skip)) = (.seq (nav [1, 1, 1, 1, 0, 1, 0, 0, 1, 0, 0, 0] (Try.f36.body.getD .skip)) (.seq (.seq (nav [1, 1, 1, 1, 0, 1, 0, 0, 1, 0, 0, 1, 0, 0] (Try.f36.body.getD .skip)) (.block 2 (.loop (nav [1, 1, 1, 1, 0, 1, 0, 0, 1, 0, 0, 1, 0, 1, 0, 0] (Try.f36.body.getD .skip))))) (.seq (nav [1, 1, 1, 1, 0, 1, 0, 0, 1, 0, 0, 1, 1, 0] (Try.f36.body.getD .skip)) (.seq (nav [1, 1, 1, 1, 0, 1, 0, 0, 1, 0, 0, 1, 1, 1, 0] (Try.f36.body.getD .skip)) (.block 6 (.loop (nav [1, 1, 1, 1, 0, 1, 0, 0, 1, 0, 0, 1, 1, 1, 1, 0, 0] (Try.f36.body.getD .skip)))))))) := by kernel_rfl
theorem code_P0 : (nav [1, 1, 1, 1, 0, 1, 0, 0] (Try.f36.body.getD .skip)) = (.seq (nav [1, 1, 1, 1, 0, 1, 0, 0, 0] (Try.f36.body.getD .skip)) (.seq (.block 1 (nav [1, 1, 1, 1, 0, 1, 0, 0, 1, 0, 0] (Try.f36.body.getD .skip))) (nav [1, 1, 1, 1, 0, 1, 0, 0, 1, 1] (Try.f36.body.getD .skip)))) := by kernel_rfl

theorem startF_eq (n m mc c : Nat) (F : Nat → Int) (k : Int) :
    (if atv F n m mc 0 (k + 1) ((c : Int) - 1) ≠ -1 ∧ atv F n m mc 0 (k + 1) ((c : Int) - 1) - k ≤ m ∧ (if atv F n m mc 0 (k - 1) ((c : Int) - 1) ≠ -1 ∧ atv F n m mc 0 (k - 1) ((c : Int) - 1) < n then atv F n m mc 0 (k - 1) ((c : Int) - 1) + 1 else if c = 0 then 0 else -1) < atv F n m mc 0 (k + 1) ((c : Int) - 1) then atv F n m mc 0 (k + 1) ((c : Int) - 1)
      else if atv F n m mc 0 (k - 1) ((c : Int) - 1) ≠ -1 ∧ atv F n m mc 0 (k - 1) ((c : Int) - 1) < n then atv F n m mc 0 (k - 1) ((c : Int) - 1) + 1 else if c = 0 then 0 else -1) = Plain.startF n m mc c F k := by
  unfold Plain.startF
  by_cases hc : c = 0
  · subst hc
    rw [Plain.at_none, Plain.at_none]
    simp
  · rw [if_neg hc, if_neg hc]
    rfl
theorem startB_eq (n m mc c : Nat) (G : Nat → Int) (k : Int) :
    (if atv G n m mc ((n : Int) - m) (k - 1) ((c : Int) - 1) ≠ -1 ∧ 0 ≤ atv G n m mc ((n : Int) - m) (k - 1) ((c : Int) - 1) - k ∧ ((if atv G n m mc ((n : Int) - m) (k + 1) ((c : Int) - 1) ≠ -1 ∧ 0 < atv G n m mc ((n : Int) - m) (k + 1) ((c : Int) - 1) then atv G n m mc ((n : Int) - m) (k + 1) ((c : Int) - 1) - 1 else if c = 0 then (n : Int) else -1) = -1 ∨ atv G n m mc ((n : Int) - m) (k - 1) ((c : Int) - 1) < (if atv G n m mc ((n : Int) - m) (k + 1) ((c : Int) - 1) ≠ -1 ∧ 0 < atv G n m mc ((n : Int) - m) (k + 1) ((c : Int) - 1) then atv G n m mc ((n : Int) - m) (k + 1) ((c : Int) - 1) - 1 else if c = 0 then (n : Int) else -1)) then atv G n m mc ((n : Int) - m) (k - 1) ((c : Int) - 1)
      else if atv G n m mc ((n : Int) - m) (k + 1) ((c : Int) - 1) ≠ -1 ∧ 0 < atv G n m mc ((n : Int) - m) (k + 1) ((c : Int) - 1) then atv G n m mc ((n : Int) - m) (k + 1) ((c : Int) - 1) - 1 else if c = 0 then (n : Int) else -1) = Plain.startB n m mc c G k := by
  unfold Plain.startB
  by_cases hc : c = 0
  · subst hc
    rw [Plain.at_none, Plain.at_none]
    simp
  · rw [if_neg hc, if_neg hc]
    rfl
section
variable {Q : Exit → Act → World → Prop} {a : Act} {w0 w : World} {bd bg ba bb bf bk : Nat} {va vb vr vad : Value} {alo blo n m ca cb c mc : Nat} {A B F G : Nat → Int} {hi k x : Int}

/-- THE SEARCH FROM THE START, AT ONE COST. -/
theorem fwd_loop (hf : FK a bd bg ba bb alo blo n m ca cb c hi k) (hw : WI w0 w bd bg ba bb bf bk va vb vr vad alo blo n m mc A B F G) (h1 : n ≤ 5000) (h2 : m ≤ 5000) (h3 : mc ≤ 9000) (h4 : c ≤ mc) (hinv : Plain.FInv (tab A B) n m mc c F G k) (hh : hi ≤ c ∧ hi ≤ n ∧ (hi = c ∨ hi = n)) (h2' : 2 ≤ Plain.fewest (tab A B) n m) (hca : n ≤ ca) (hcb : m ≤ cb) (hal : alo ≤ 5000) (hbl : blo ≤ 5000) (hk2 : k ≤ hi + 2)
    (hR : ∀ a' w' F' (X Y : Nat), FRet a' ((alo : Int) + X) ((blo : Int) + Y) → WI w0 w' bd bg ba bb bf bk va vb vr vad alo blo n m mc A B F' G → Plain.Inside (tab A B) n m mc X Y → Q .ret a' w')
    (hQ : ∀ a' w' F', F36 a' bd bg ba bb alo blo n m ca cb c → WI w0 w' bd bg ba bb bf bk va vb vr vad alo blo n m mc A B F' G → Plain.FOk (tab A B) n m mc c F' → 2 * c ≤ Plain.fewest (tab A B) n m → (((n : Int) - m).tmod 2 ≠ 0 → 2 * c + 1 ≤ Plain.fewest (tab A B) n m) → Q .normal a' w') :
    Code.wp Try.prog (.block 2 (.loop (nav [1, 1, 1, 1, 0, 1, 0, 0, 1, 0, 0, 1, 0, 1, 0, 0] (Try.f36.body.getD .skip)))) Q a w := by
  refine wp_block ?_
  refine wp_loop (fun a w => ∃ F k, FK a bd bg ba bb alo blo n m ca cb c hi k ∧ WI w0 w bd bg ba bb bf bk va vb vr vad alo blo n m mc A B F G ∧ Plain.FInv (tab A B) n m mc c F G k ∧ k ≤ hi + 2) (fun a _ => (hi + 3 - intOf (a.tmps.getD 21 undef)).toNat) ⟨F, k, hf, hw, hinv, hk2⟩ ?_
  clear hf hw hinv hk2
  rintro a w ⟨F, k, hf, hw, hinv, hk2⟩
  have hlo := hinv.lo
  rw [code_FB]
  refine wp_seq ?_
  by_cases hk : k ≤ hi
  · refine f9_in hf hk fun a1 hf1 => ?_
    refine wp_seq ?_
    refine wp_block ?_
    rw [code_FS]
    refine wp_seq (f11 hf1 fun a2 hf2 => ?_)
    refine wp_seq (f12 hf2 fun a3 hf3 => ?_)
    have bd1 := Plain.f_at_bd hinv (k - 1) ⟨-1, by omega⟩
    have bd2 := Plain.f_at_bd hinv (k + 1) ⟨0, by omega⟩
    refine wp_seq (f14 hf3 hw h1 h2 h3 h4 (by omega) (by omega) bd1 fun a4 w4 hf4 hw4 => ?_)
    refine wp_seq (f17 hf4 hw4 h1 h2 h3 h4 (by omega) (by omega) (by
      split
      · omega
      · split <;> omega) bd2 fun a5 w5 hf5 hw5 => ?_)
    rw [startF_eq] at hf5
    have fin : ∀ (a6 : Act) (w6 : World) (v : Int), FX a6 bd bg ba bb alo blo n m ca cb c hi k v → WI w0 w6 bd bg ba bb bf bk va vb vr vad alo blo n m mc A B F G → Plain.Good (tab A B) n m c k v →
        Code.wp Try.prog (.seq (nav [1, 1, 1, 1, 0, 1, 0, 0, 1, 0, 0, 1, 0, 1, 0, 0, 1, 0, 0, 1, 1, 1, 1, 1, 0] (Try.f36.body.getD .skip)) (nav [1, 1, 1, 1, 0, 1, 0, 0, 1, 0, 0, 1, 0, 1, 0, 0, 1, 0, 0, 1, 1, 1, 1, 1, 1] (Try.f36.body.getD .skip))) (Exit.inBlock 3 (Exit.then (Code.wp Try.prog (nav [1, 1, 1, 1, 0, 1, 0, 0, 1, 0, 0, 1, 0, 1, 0, 0, 1, 1] (Try.f36.body.getD .skip)) (Exit.then (fun a' w' => (∃ F k, FK a' bd bg ba bb alo blo n m ca cb c hi k ∧ WI w0 w' bd bg ba bb bf bk va vb vr vad alo blo n m mc A B F G ∧ Plain.FInv (tab A B) n m mc c F G k ∧ k ≤ hi + 2) ∧ (hi + 3 - intOf (a'.tmps.getD 21 undef)).toNat < (hi + 3 - intOf (a.tmps.getD 21 undef)).toNat) (Exit.inBlock 2 Q))) (Exit.then (fun a' w' => (∃ F k, FK a' bd bg ba bb alo blo n m ca cb c hi k ∧ WI w0 w' bd bg ba bb bf bk va vb vr vad alo blo n m mc A B F G ∧ Plain.FInv (tab A B) n m mc c F G k ∧ k ≤ hi + 2) ∧ (hi + 3 - intOf (a'.tmps.getD 21 undef)).toNat < (hi + 3 - intOf (a.tmps.getD 21 undef)).toNat) (Exit.inBlock 2 Q)))) a6 w6 := by
      intro a6 w6 v hf6 hw6 hg
      refine wp_seq (f23 hf6 hw6 h1 h2 h3 h4 (by omega) (by omega) fun a7 w7 hf7 hw7 => ?_)
      have bv := Plain.good_lo hg
      refine f24 hf7 hw7 h1 h2 h3 h4 (by omega) (by omega) bv hal hbl (fun ho => Plain.f_end_bd hinv ho) ?_ ?_
      · intro a8 w8 hr8 hw8 ho hv he hle
        obtain ⟨X, Y, e1, e2, hin⟩ := Plain.f_meet hinv h2' hg ho hv he hle
        refine hR a8 w8 _ X Y ?_ hw8 hin
        rw [e1, show (blo : Int) + X - k = (blo : Int) + Y from by omega] at hr8
        exact hr8
      · intro a8 w8 hf8 hw8 hno
        have hnx := Plain.f_next hinv (by omega) h4 hg hno
        refine f10 hf8.toFK (by omega) (by omega) fun a9 hf9 => ?_
        refine ⟨⟨_, k + 2, hf9, hw8, hnx, by omega⟩, ?_⟩
        rw [hf9.t21, hf.t21]
        simp only [intOf]
        omega
    by_cases hs : Plain.startF n m mc c F k = -1
    · rw [hs] at hf5
      refine wp_seq (f20_no hf5 fun a6 hf6 => ?_)
      exact fin a6 w5 (-1) hf6 hw5 (Plain.f_good hinv (by omega) (fun _ => rfl) (fun h => absurd hs h))
    · obtain ⟨X, Y, e1, e2, e3, e4⟩ := Plain.f_start hinv (by omega) hs
      rw [e1] at hf5
      refine wp_seq (f20 X Y hf5 hw5 h1 h2 h3 h4 (by omega) (by omega) e2 e3 e4 hca hcb fun a6 w6 v hf6 hsl hw6 => ?_)
      exact fin a6 w6 v hf6 hw6 (Plain.f_good hinv (by omega) (fun h => absurd h hs) (fun _ => by rw [e1]; exact hsl))
  · refine f9_out hf (by omega) fun a1 hf1 => ?_
    obtain ⟨d1, d2, d3⟩ := Plain.f_done hinv (by omega)
    exact hQ a1 w F hf1.toF36 hw d1 d2 d3

/-- THE SEARCH FROM THE END, AT ONE COST. -/
theorem bwd_loop (hf : BK a bd bg ba bb alo blo n m ca cb c hi k) (hw : WI w0 w bd bg ba bb bf bk va vb vr vad alo blo n m mc A B F G) (h1 : n ≤ 5000) (h2 : m ≤ 5000) (h3 : mc ≤ 9000) (h4 : c ≤ mc) (hinv : Plain.BInv (tab A B) n m mc c F G k) (hh : hi ≤ (n : Int) - m + c ∧ hi ≤ n ∧ (hi = (n : Int) - m + c ∨ hi = n)) (h2' : 2 ≤ Plain.fewest (tab A B) n m) (hodd : ((n : Int) - m).tmod 2 ≠ 0 → 2 * c + 1 ≤ Plain.fewest (tab A B) n m) (hca : n ≤ ca) (hcb : m ≤ cb) (hal : alo ≤ 5000) (hbl : blo ≤ 5000) (hk2 : k ≤ hi + 2)
    (hR : ∀ a' w' G' (X Y : Nat), FRet a' ((alo : Int) + X) ((blo : Int) + Y) → WI w0 w' bd bg ba bb bf bk va vb vr vad alo blo n m mc A B F G' → Plain.Inside (tab A B) n m mc X Y → Q .ret a' w')
    (hQ : ∀ a' w' G', F36 a' bd bg ba bb alo blo n m ca cb c → WI w0 w' bd bg ba bb bf bk va vb vr vad alo blo n m mc A B F G' → Plain.FOk (tab A B) n m mc c F → Plain.BOk (tab A B) n m mc c G' → 2 * (c + 1) ≤ Plain.fewest (tab A B) n m + 1 → Q .normal a' w') :
    Code.wp Try.prog (.block 6 (.loop (nav [1, 1, 1, 1, 0, 1, 0, 0, 1, 0, 0, 1, 1, 1, 1, 0, 0] (Try.f36.body.getD .skip)))) Q a w := by
  refine wp_block ?_
  refine wp_loop (fun a w => ∃ G k, BK a bd bg ba bb alo blo n m ca cb c hi k ∧ WI w0 w bd bg ba bb bf bk va vb vr vad alo blo n m mc A B F G ∧ Plain.BInv (tab A B) n m mc c F G k ∧ k ≤ hi + 2) (fun a _ => (hi + 3 - intOf (a.tmps.getD 26 undef)).toNat) ⟨G, k, hf, hw, hinv, hk2⟩ ?_
  clear hf hw hinv hk2
  rintro a w ⟨G, k, hf, hw, hinv, hk2⟩
  have hlo := hinv.lo
  rw [code_BB]
  refine wp_seq ?_
  by_cases hk : k ≤ hi
  · refine b30_in hf hk fun a1 hf1 => ?_
    refine wp_seq ?_
    refine wp_block ?_
    rw [code_BS]
    refine wp_seq (b32 hf1 fun a2 hf2 => ?_)
    refine wp_seq (b33 hf2 fun a3 hf3 => ?_)
    have bd1 := Plain.b_at_bd hinv (k + 1) ⟨0, by omega⟩
    have bd2 := Plain.b_at_bd hinv (k - 1) ⟨-1, by omega⟩
    refine wp_seq (b35 hf3 hw h1 h2 h3 h4 (by omega) (by omega) bd1 fun a4 w4 hf4 hw4 => ?_)
    refine wp_seq (b38 hf4 hw4 h1 h2 h3 h4 (by omega) (by omega) (by
      split
      · omega
      · split <;> omega) bd2 fun a5 w5 hf5 hw5 => ?_)
    rw [startB_eq] at hf5
    have fin : ∀ (a6 : Act) (w6 : World) (v : Int), BX a6 bd bg ba bb alo blo n m ca cb c hi k v → WI w0 w6 bd bg ba bb bf bk va vb vr vad alo blo n m mc A B F G → Plain.GoodB (tab A B) n m c k v →
        Code.wp Try.prog (.seq (nav [1, 1, 1, 1, 0, 1, 0, 0, 1, 0, 0, 1, 1, 1, 1, 0, 0, 1, 0, 0, 1, 1, 1, 1, 1, 0] (Try.f36.body.getD .skip)) (nav [1, 1, 1, 1, 0, 1, 0, 0, 1, 0, 0, 1, 1, 1, 1, 0, 0, 1, 0, 0, 1, 1, 1, 1, 1, 1] (Try.f36.body.getD .skip))) (Exit.inBlock 7 (Exit.then (Code.wp Try.prog (nav [1, 1, 1, 1, 0, 1, 0, 0, 1, 0, 0, 1, 1, 1, 1, 0, 0, 1, 1] (Try.f36.body.getD .skip)) (Exit.then (fun a' w' => (∃ G k, BK a' bd bg ba bb alo blo n m ca cb c hi k ∧ WI w0 w' bd bg ba bb bf bk va vb vr vad alo blo n m mc A B F G ∧ Plain.BInv (tab A B) n m mc c F G k ∧ k ≤ hi + 2) ∧ (hi + 3 - intOf (a'.tmps.getD 26 undef)).toNat < (hi + 3 - intOf (a.tmps.getD 26 undef)).toNat) (Exit.inBlock 6 Q))) (Exit.then (fun a' w' => (∃ G k, BK a' bd bg ba bb alo blo n m ca cb c hi k ∧ WI w0 w' bd bg ba bb bf bk va vb vr vad alo blo n m mc A B F G ∧ Plain.BInv (tab A B) n m mc c F G k ∧ k ≤ hi + 2) ∧ (hi + 3 - intOf (a'.tmps.getD 26 undef)).toNat < (hi + 3 - intOf (a.tmps.getD 26 undef)).toNat) (Exit.inBlock 6 Q)))) a6 w6 := by
      intro a6 w6 v hf6 hw6 hg
      refine wp_seq (b44 hf6 hw6 h1 h2 h3 h4 (by omega) (by omega) fun a7 w7 hf7 hw7 => ?_)
      have bv : -1 ≤ v ∧ v ≤ n := ⟨hg.2.1, hg.1⟩
      refine b45 hf7 hw7 h1 h2 h3 h4 (by omega) (by omega) bv hal hbl (fun he => Plain.good_lo (Plain.b_start hinv he)) ?_ ?_
      · intro a8 w8 hr8 hw8 he hv hs hle
        obtain ⟨X, Y, e1, e2, hin⟩ := Plain.b_meet hinv h2' hg he hv hs hle
        refine hR a8 w8 _ X Y ?_ hw8 hin
        rw [e1, show (blo : Int) + X - k = (blo : Int) + Y from by omega] at hr8
        exact hr8
      · intro a8 w8 hf8 hw8 hno
        have hnx := Plain.b_next hinv (by omega) h4 hg hno
        refine b31 hf8.toBK (by omega) (by omega) fun a9 hf9 => ?_
        refine ⟨⟨_, k + 2, hf9, hw8, hnx, by omega⟩, ?_⟩
        rw [hf9.t26, hf.t26]
        simp only [intOf]
        omega
    by_cases hs : Plain.startB n m mc c G k = -1
    · rw [hs] at hf5
      refine wp_seq (b41_no hf5 fun a6 hf6 => ?_)
      exact fin a6 w5 (-1) hf6 hw5 (Plain.b_good hinv (by omega) (fun _ => rfl) (fun h => absurd hs h))
    · obtain ⟨X, Y, e1, e2, e3, e4⟩ := Plain.b_begin hinv (by omega) hs
      rw [e1] at hf5
      refine wp_seq (b41 X Y hf5 hw5 h1 h2 h3 h4 (by omega) (by omega) e2 e3 e4 hca hcb fun a6 w6 v hf6 hsl hw6 => ?_)
      exact fin a6 w6 v hf6 hw6 (Plain.b_good hinv (by omega) (fun h => absurd h hs) (fun _ => by rw [e1]; exact hsl))
  · refine b30_out hf (by omega) fun a1 hf1 => ?_
    obtain ⟨d1, d2⟩ := Plain.b_done hinv (by omega) hodd
    exact hQ a1 w G hf1.toF36 hw hinv.fcur d1 d2

/-- ALL COSTS. -/
theorem outer_loop (hf : F36 a bd bg ba bb alo blo n m ca cb 0) (hw : WI w0 w bd bg ba bb bf bk va vb vr vad alo blo n m mc A B F G) (h1 : n ≤ 5000) (h2 : m ≤ 5000) (h3 : mc ≤ 8500) (h2' : 2 ≤ Plain.fewest (tab A B) n m) (hca : n ≤ ca) (hcb : m ≤ cb) (hal : alo ≤ 5000) (hbl : blo ≤ 5000)
    (hR : ∀ a' w' F' G' (X Y : Nat), FRet a' ((alo : Int) + X) ((blo : Int) + Y) → WI w0 w' bd bg ba bb bf bk va vb vr vad alo blo n m mc A B F' G' → Plain.Inside (tab A B) n m mc X Y → Q .ret a' w')
    (hQ : ∀ a' w' F' G', F36 a' bd bg ba bb alo blo n m ca cb (mc + 1) → WI w0 w' bd bg ba bb bf bk va vb vr vad alo blo n m mc A B F' G' → Plain.FOk (tab A B) n m mc mc F' → Plain.BOk (tab A B) n m mc mc G' → 2 * mc + 1 ≤ Plain.fewest (tab A B) n m → Q .normal a' w') :
    Code.wp Try.prog (.block 0 (.loop (nav [1, 1, 1, 1, 0, 1, 0, 0] (Try.f36.body.getD .skip)))) Q a w := by
  refine wp_block ?_
  refine wp_loop (fun a w => ∃ c F G, F36 a bd bg ba bb alo blo n m ca cb c ∧ WI w0 w bd bg ba bb bf bk va vb vr vad alo blo n m mc A B F G ∧ (1 ≤ c → Plain.FOk (tab A B) n m mc (c - 1) F) ∧ (1 ≤ c → Plain.BOk (tab A B) n m mc (c - 1) G) ∧ 2 * c ≤ Plain.fewest (tab A B) n m + 1 ∧ c ≤ mc + 1) (fun a _ => ((mc : Int) + 2 - intOf (a.tmps.getD 18 undef)).toNat) ⟨0, F, G, hf, hw, fun h => absurd h (by omega), fun h => absurd h (by omega), by omega, by omega⟩ ?_
  clear hf hw
  rintro a w ⟨c, F, G, hf, hw, hF, hG, hfew, hc⟩
  rw [code_P0]
  refine wp_seq ?_
  by_cases hcm : c ≤ mc
  · refine o5_in hf hw hcm fun a1 hf1 => ?_
    refine wp_seq ?_
    refine wp_block ?_
    rw [code_C1]
    refine wp_seq (f7 hf1 hw h1 h2 (by omega) hcm (by omega) fun a2 w2 lo hi hf2 hd2 hw2 => ?_)
    obtain ⟨⟨l1, l2, l3, l4⟩, q1, q2, q3⟩ := hd2
    refine wp_seq (wp_seq (f8 hf2 fun a3 hf3 => ?_))
    refine fwd_loop hf3 hw2 h1 h2 (by omega) hcm (Plain.f_begin hF hG hfew (by omega) l3 l4) (by omega) h2' hca hcb hal hbl (by omega) ?_ ?_
    · intro a4 w4 F4 X Y hr hw4 hin
      exact hR a4 w4 F4 G X Y hr hw4 hin
    · intro a4 w4 F4 hf4 hw4 hF4 hfew4 hodd4
      refine wp_seq (b28 hf4 hw4 h1 h2 (by omega) hcm (by omega) fun a5 w5 lo hi hf5 hd5 hw5 => ?_)
      obtain ⟨⟨l1, l2, l3, l4⟩, q1, q2, q3⟩ := hd5
      refine wp_seq (b29 hf5 fun a6 hf6 => ?_)
      refine bwd_loop hf6 hw5 h1 h2 (by omega) hcm (Plain.b_enter hG hF4 hfew4 (by omega) l3 l4) (by omega) h2' hodd4 hca hcb hal hbl (by omega) ?_ ?_
      · intro a7 w7 G7 X Y hr hw7 hin
        exact hR a7 w7 F4 G7 X Y hr hw7 hin
      · intro a7 w7 G7 hf7 hw7 hF7 hG7 hfew7
        refine o6 hf7 (by omega) fun a8 hf8 => ?_
        refine ⟨⟨c + 1, F4, G7, hf8, hw7, fun _ => hF7, fun _ => hG7, hfew7, by omega⟩, ?_⟩
        rw [hf8.t18, hf.t18]
        simp only [intOf]
        omega
  · obtain rfl : c = mc + 1 := by omega
    refine o5_out hf hw (by omega) fun a1 hf1 => ?_
    exact hQ a1 w F G hf1 hw (hF (by omega)) (hG (by omega)) (by omega)

end
end Go.Proofs.Qxb6600330a
