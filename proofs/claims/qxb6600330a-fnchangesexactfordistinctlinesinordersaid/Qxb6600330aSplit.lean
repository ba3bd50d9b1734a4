import Derived.Test.Qxb6600330aPre
namespace Go.Proofs.Qxb6600330a
open Go.RowKit
set_option linter.unusedVariables false

theorem code_B36 : Try.f36.body = some (.seq (nav [0] (Try.f36.body.getD .skip)) (.seq (nav [1, 0] (Try.f36.body.getD .skip)) (.seq (nav [1, 1, 0] (Try.f36.body.getD .skip)) (.seq (nav [1, 1, 1, 0] (Try.f36.body.getD .skip)) (.seq (.seq (nav [1, 1, 1, 1, 0, 0] (Try.f36.body.getD .skip)) (.block 0 (.loop (nav [1, 1, 1, 1, 0, 1, 0, 0] (Try.f36.body.getD .skip))))) (nav [1, 1, 1, 1, 1] (Try.f36.body.getD .skip))))))) := by kernel_rfl

theorem ret36 {R : Ending → World → Prop} {a : Act} {w : World} {X Y : Int} (hf : FRet a X Y) (h : R (.returned (.tuple #[.int .i64 X, .int .i64 Y])) w) : bodyPost Try.prog Try.f36 R .ret a w := by
  refine ⟨hf.df, _, results_tmp2 (t := 10) (u := 11) rfl _ _ _, ?_⟩
  rw [hf.t10, hf.t11]
  exact h

/-- **split**: a point strictly inside, on a path of the fewest edits where the search has been let go far enough; of what was there only the two tables are turned. -/
theorem split_any (bd ba bb bf bk N M mc alo ahi blo bhi : Nat) (vr vad : Value) (A B F G : Nat → Int) (w : World) (hN : N ≤ 4096) (hM : M ≤ 4096) (hmc : 1 ≤ mc) (hmc' : mc ≤ 8500) (ha : alo < ahi) (ha' : ahi ≤ N) (hb : blo < bhi) (hb' : bhi ≤ M)
    (hd : DW w bd (.slice (some ⟨ba, 0, none⟩) N N) (.slice (some ⟨bb, 0, none⟩) M M) vr vad bf bk mc) (ht : TW w bf bk mc F G) (hra : IntRow w ba 0 N A) (hrb : IntRow w bb 0 M B)
    (nd : ¬ (bd = bf ∨ bd = bk)) (na : ¬ (ba = bf ∨ ba = bk)) (nb : ¬ (bb = bf ∨ bb = bk))
    (h2 : 2 ≤ Plain.fewest (tab (fun i => A (alo + i)) (fun j => B (blo + j))) (ahi - alo) (bhi - blo)) :
    Calls Try.prog 36 #[.pointer (some ⟨bd, 0, none⟩), .int .i64 alo, .int .i64 ahi, .int .i64 blo, .int .i64 bhi] w fun e w' => ∃ X Y : Nat, e = .returned (.tuple #[.int .i64 ((alo + X : Nat) : Int), .int .i64 ((blo + Y : Nat) : Int)]) ∧
      Plain.Inside (tab (fun i => A (alo + i)) (fun j => B (blo + j))) (ahi - alo) (bhi - blo) mc X Y ∧ (∃ F' G', TW w' bf bk mc F' G') ∧ Kept (fun k => k = bf ∨ k = bk) w w' := by
  refine calls_of_wp Try.func36 code_B36 ?_
  have hs : G0 { tmps := #[.pointer (some ⟨bd, 0, none⟩), .int .i64 alo, .int .i64 ahi, .int .i64 blo, .int .i64 bhi] ++ Array.replicate (Try.f36.ntmps - #[Value.pointer (some ⟨bd, 0, none⟩), .int .i64 alo, .int .i64 ahi, .int .i64 blo, .int .i64 bhi].size) undef, defers := [] } bd alo ahi blo bhi :=
    ⟨by kernel_rfl, rfl, by kernel_rfl, by kernel_rfl, by kernel_rfl, by kernel_rfl, by kernel_rfl⟩
  refine wp_seq (p0 hs fun a1 hf1 => ?_)
  refine wp_seq (p1 hf1 hd.c0 hd.c1 hN hM ha ha' hb hb' fun a2 w2 hf2 hb2 => ?_)
  have k2 := kept_below hb2
  have hd2 := hd.kept k2 id
  have ht2 := ht.kept k2 id id
  refine wp_seq (p2 hf2 hd2.c6 (by omega) (by omega) ha hb fun a3 hf3 => ?_)
  obtain ⟨w3, e3⟩ : ∃ w3, w3 = w2.alloc (.cells #[.int .i64 ((ahi : Int) - alo), .int .i64 ((bhi : Int) - blo), .int .i64 mc] 58) := ⟨_, rfl⟩
  have hb3 : Below w2.heap.size w2 w3 := by rw [e3]; exact (Below.refl _ _).alloc (Nat.le_refl _) _
  have k3 := kept_below hb3
  have gw3 : GW w3 w2.heap.size (ahi - alo) (bhi - blo) mc := by
    rw [e3]
    refine ⟨?_, ?_, ?_⟩
    · rw [show ((ahi - alo : Nat) : Int) = (ahi : Int) - alo from by omega]; simp
    · rw [show ((bhi - blo : Nat) : Int) = (bhi : Int) - blo from by omega]; simp
    · simp
  change Code.wp _ _ _ _ _
  rw [← e3]
  refine wp_seq (p3 hf3 gw3.g0 gw3.g1 (by omega) (by omega) fun a4 w4 hf4 hb4 => ?_)
  have k4 := kept_below hb4
  refine wp_seq (wp_seq (p4 hf4 fun a5 hf5 => ?_))
  have hsz : ∀ b, b < w2.heap.size → w2.heap.size ≠ b := fun b h e => by omega
  have hw4 : WI w w4 bd w2.heap.size ba bb bf bk (.slice (some ⟨ba, 0, none⟩) N N) (.slice (some ⟨bb, 0, none⟩) M M) vr vad alo blo (ahi - alo) (bhi - blo) mc (fun i => A (alo + i)) (fun j => B (blo + j)) F G := by
    refine ⟨(hd2.kept k3 id).kept k4 id, gw3.kept k4 id, ?_, ?_, (ht2.kept k3 id id).kept k4 id id, ?_, nd, ?_, na, nb⟩
    · intro i hi
      have := hra (alo + i) (by omega)
      rw [Nat.zero_add] at this
      exact k4.cell (k3.cell (k2.cell this id) id) id
    · intro i hi
      have := hrb (blo + i) (by omega)
      rw [Nat.zero_add] at this
      exact k4.cell (k3.cell (k2.cell this id) id) id
    · exact ((Kept.of_below hb2).trans (Kept.of_below hb3)).trans (Kept.of_below hb4)
    · have q1 := ht2.f.lt
      have q2 := ht2.g.lt
      omega
  refine outer_loop hf5 hw4 (by omega) (by omega) hmc' h2 (by omega) (by omega) (by omega) (by omega) ?_ ?_
  · intro a6 w6 F' G' X Y hr hw6 hin
    dsimp only [Exit.then]
    refine ret36 hr ⟨X, Y, ?_, hin, ⟨F', G', hw6.t⟩, hw6.k⟩
    rw [show ((alo + X : Nat) : Int) = (alo : Int) + X from by omega, show ((blo + Y : Nat) : Int) = (blo : Int) + Y from by omega]
  · intro a6 w6 F' G' hf6 hw6 hF hG hfew
    refine p49 hf6 hw6 (by omega) (by omega) hmc' hmc (by omega) (by omega) hF hG hfew fun a7 w7 X Y hr hw7 hin => ?_
    refine ret36 hr ⟨X, Y, ?_, hin, ⟨F', G', hw7.t⟩, hw7.k⟩
    rw [show ((alo + X : Nat) : Int) = (alo : Int) + X from by omega, show ((blo + Y : Nat) : Int) = (blo : Int) + Y from by omega]

end Go.Proofs.Qxb6600330a
