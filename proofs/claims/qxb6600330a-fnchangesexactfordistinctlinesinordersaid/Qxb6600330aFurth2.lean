import Derived.Test.Qxb6600330aFurth
namespace Go.Proofs.Qxb6600330a
open Go.RowKit
set_option linter.unusedVariables false

set_option maxRecDepth 100000 in
set_option maxHeartbeats 2000000 in
theorem furthest_any (bd bf bk n m mc : Nat) (va vb vr vad : Value) (A B F G : Nat → Int) (w : World) (hd : DW w bd va vb vr vad bf bk mc) (ht : TW w bf bk mc F G) (h1 : n ≤ 5000) (h2 : m ≤ 5000) (h3 : mc ≤ 9000) (hmc : 1 ≤ mc)
    (hF : Plain.FOk (tab A B) n m mc mc F) (hG : Plain.BOk (tab A B) n m mc mc G) (hfew : 2 * mc + 1 ≤ Plain.fewest (tab A B) n m) :
    Calls Try.prog 42 #[.pointer (some ⟨bd, 0, none⟩), .agg #[.int .i64 n, .int .i64 m, .int .i64 mc]] w fun e w' => ∃ X Y : Nat, e = .returned (.tuple #[.int .i64 (X : Int), .int .i64 (Y : Int)]) ∧ Plain.Inside (tab A B) n m mc X Y ∧ Below w.heap.size w w' := by
  obtain ⟨lo, elo⟩ : ∃ lo, lo = dlo (m : Int) 0 mc := ⟨_, rfl⟩
  obtain ⟨hi, ehi⟩ : ∃ hi, hi = dhi (n : Int) 0 mc := ⟨_, rfl⟩
  have hD1 : Hid (Diags n m 0 mc lo hi) := by rw [elo, ehi]; exact diags_det n m 0 mc (by omega)
  have hcall : Hid (∀ w1, Calls Try.prog 39 #[.agg #[.int .i64 n, .int .i64 m, .int .i64 mc], .int .i64 0, .int .i64 mc] w1 fun e w' => e = .returned (.tuple #[.int .i64 lo, .int .i64 hi]) ∧ Below w1.heap.size w1 w') := fun w1 => by
    rw [elo, ehi]
    exact diagonals_det n m mc 0 mc w1 (by omega) (by omega) (by omega) (by omega) (by omega) (by omega) (by omega) (by omega) (by omega) (by omega) (by omega)
  clear elo ehi
  have HH : Hid (DW w bd va vb vr vad bf bk mc ∧ TW w bf bk mc F G ∧ Plain.FOk (tab A B) n m mc mc F ∧ Plain.BOk (tab A B) n m mc mc G) := ⟨hd, ht, hF, hG⟩
  clear hd ht hF hG
  go_enter Try.func42, Try.ntmps42
  go_wp2_with fail
  obtain ⟨wb, ewb⟩ : ∃ wb, wb = w.alloc (Obj.cells #[Value.int IntKind.i64 (n : Int), Value.int IntKind.i64 (m : Int), Value.int IntKind.i64 (mc : Int)] 58) := ⟨_, rfl⟩
  rw [← ewb]
  obtain ⟨bg, ebg⟩ : ∃ bg, bg = w.heap.size := ⟨_, rfl⟩
  rw [← ebg]
  have hbw : Below w.heap.size w wb := by rw [ewb]; exact (Below.refl _ _).alloc (Nat.le_refl _) _
  have HI : Hid (DW wb bd va vb vr vad bf bk mc ∧ TW wb bf bk mc F G ∧ GW wb bg n m mc) := by
    refine ⟨HH.out.1.kept (kept_below hbw) id, HH.out.2.1.kept (kept_below hbw) id id, ?_⟩
    rw [ewb, ebg]
    exact ⟨by simp, by simp, by simp⟩
  have HM : Hid (Plain.FOk (tab A B) n m mc mc F ∧ Plain.BOk (tab A B) n m mc mc G) := HH.out.2.2
  have HB : Hid (Below w.heap.size w wb) := hbw
  clear ewb ebg HH hbw
  -- the diagonals of the search from the start
  have ne := ext_nonempty wb
  have g0 := fun y => wext_cell wb y HI.out.2.2.g0
  have g1 := fun y => wext_cell wb y HI.out.2.2.g1
  have g2 := fun y => wext_cell wb y HI.out.2.2.g2
  have c6 := fun y => wext_cell wb y HI.out.1.c6
  refine wp_region_ext (by kernel_rfl) (by kernel_rfl) ?_
  repeat (go_big_quiet_step ((go_at_call 39; exact Calls.ext (hcall.out _))))
  refine wpQuiet_nil ?_
  clear g0 g1 g2 c6 ne hcall
  intro w1 hb1
  have HI1 : Hid (DW w1 bd va vb vr vad bf bk mc ∧ TW w1 bf bk mc F G ∧ GW w1 bg n m mc) := ⟨HI.out.1.kept (kept_below hb1) id, HI.out.2.1.kept (kept_below hb1) id id, HI.out.2.2.kept (kept_below hb1) id⟩
  have HB1 : Hid (Below w.heap.size w w1) := HB.out.trans (hb1.mono HB.out.size)
  clear HI HB hb1
  obtain ⟨⟨l1, l2, l3, l4⟩, q1, q2, q3⟩ := hD1.out
  have HL : Hid ((∃ z : Int, lo = 0 - mc + 2 * z) ∧ (lo = 0 - mc ∨ lo ≤ -(m : Int) + 1) ∧ (hi = 0 + (mc : Int) ∨ hi = n)) := ⟨l3, l4, q3⟩
  clear l3 l4 q3 hD1
  go_wp2_with fail
  go_loopw [4, 5, 6, 9] (fun x y best k wr => ∃ X Y B' K : Int, x = .int .i64 X ∧ y = .int .i64 Y ∧ best = .int .i64 B' ∧ k = .int .i64 K ∧ K ≤ hi + 2 ∧ Hid (Plain.FarF (tab A B) n m mc X Y B' K) ∧ Below w1.heap.size w1 wr) (fun x y best k wr => (hi + 3 - intOf k).toNat)
  case atStart => exact ⟨0, 0, -1, lo, rfl, rfl, rfl, rfl, by have := HL.out; omega, Plain.farF_start (by omega) HL.out.1 HL.out.2.1, Below.refl _ _⟩
  case round =>
    obtain ⟨X, Y, B', K, rfl, rfl, rfl, rfl, hK, hfar, hbw⟩ := hrel
    have hlo := hfar.out.lo
    have hbd := hfar.out.bd
    obtain ⟨lo1, lo2⟩ := hlo
    obtain ⟨bd1, bd2⟩ := hbd
    have HI2 : Hid (DW wr bd va vb vr vad bf bk mc ∧ TW wr bf bk mc F G ∧ GW wr bg n m mc) := ⟨HI1.out.1.kept (kept_below hbw) id, HI1.out.2.1.kept (kept_below hbw) id id, HI1.out.2.2.kept (kept_below hbw) id⟩
    have HB2 : Hid (Below w1.heap.size w1 wr) := hbw
    clear hbw
    by_cases hk : K ≤ hi
    · have hg : Plain.Good (tab A B) n m mc K (F (K + mc + 1).toNat) := Plain.fok_at HM.out.1 hfar.out.par (by omega) (by have := HL.out; omega)
      obtain ⟨i, ei⟩ : ∃ i : Nat, i = (K + mc + 1).toNat := ⟨_, rfl⟩
      obtain ⟨T, eT⟩ : ∃ T : Nat, T = 2 * mc + 3 := ⟨_, rfl⟩
      have hcall : Hid (∀ w1, Calls Try.prog 41 #[.agg #[.int .i64 n, .int .i64 m, .int .i64 mc], .int .i64 0, .int .i64 K] w1 fun e w' => e = .returned (.int .i64 (i : Int)) ∧ Below w1.heap.size w1 w') := fun w1 => by
        rw [show (i : Int) = K - 0 + mc + 1 from by omega]
        exact index_any n m mc 0 K w1 (by omega) (by omega) (by omega) (by omega) (by omega) (by omega)
      have ne := ext_nonempty wr
      have g0 := fun y => wext_cell wr y HI2.out.2.2.g0
      have g1 := fun y => wext_cell wr y HI2.out.2.2.g1
      have g2 := fun y => wext_cell wr y HI2.out.2.2.g2
      have c4 := fun y => wext_cell wr y (eT ▸ HI2.out.1.c4)
      have ci := fun y => wext_cell wr y (HI2.out.2.1.f.cell (i := i) (by omega))
      have i1 : (0 : Int) ≤ (i : Int) := by omega
      have i2 : (i : Int) < (T : Int) := by omega
      obtain ⟨v, ev⟩ : ∃ v, v = F i := ⟨_, rfl⟩
      rw [← ev] at ci
      rw [← ei, ← ev] at hg
      clear ei eT ev
      obtain ⟨v1, v2⟩ := Plain.good_lo hg
      have HG : Hid (Plain.Good (tab A B) n m mc K v) := hg
      clear hg
      go_wp2_with fail
      refine wp_region_ext (by kernel_rfl) (by kernel_rfl) ?_
      repeat (go_big_quiet_step ((go_at_call 41; exact Calls.ext (hcall.out _))))
      refine wpQuiet_nil ?_
      clear g0 g1 g2 c4 ci ne hcall
      intro w3 hb3
      have HB3 : Hid (Below w1.heap.size w1 w3) := HB2.out.trans (hb3.mono HB2.out.size)
      clear HI2 HB2 hb3
      by_cases b1 : v = -1
      · have d1 : (v != -1) = false := by simpa using b1
        have HV : Hid (v = -1) := b1
        clear b1
        go_wp2
        go_roundw
        case rel => exact ⟨X, Y, B', K + 2, rfl, rfl, rfl, rfl, by omega, Plain.farF_skip hfar.out HG.out (.inl HV.out), HB3.out⟩
        case measure => simp [intOf]; omega
      · by_cases b2 : B' < 2 * v - K
        · go_wp2
          go_roundw
          case rel => exact ⟨v, v - K, 2 * v - K, K + 2, rfl, rfl, rfl, rfl, by omega, Plain.farF_take hfar.out HG.out b1 b2, HB3.out⟩
          case measure => simp [intOf]; omega
        · go_wp2
          go_roundw
          case rel => exact ⟨X, Y, B', K + 2, rfl, rfl, rfl, rfl, by omega, Plain.farF_skip hfar.out HG.out (.inr (by omega)), HB3.out⟩
          case measure => simp [intOf]; omega
    · have g0 := HI2.out.2.2.g0
      have g1 := HI2.out.2.2.g1
      obtain ⟨lo', elo⟩ : ∃ lo, lo = dlo (m : Int) ((n : Int) - m) mc := ⟨_, rfl⟩
      obtain ⟨hi', ehi⟩ : ∃ hi, hi = dhi (n : Int) ((n : Int) - m) mc := ⟨_, rfl⟩
      have hD2 : Hid (Diags n m ((n : Int) - m) mc lo' hi') := by rw [elo, ehi]; exact diags_det n m ((n : Int) - m) mc (by omega)
      have hcall : Hid (∀ w1, Calls Try.prog 39 #[.agg #[.int .i64 n, .int .i64 m, .int .i64 mc], .int .i64 ((n : Int) - m), .int .i64 mc] w1 fun e w' => e = .returned (.tuple #[.int .i64 lo', .int .i64 hi']) ∧ Below w1.heap.size w1 w') := fun w1 => by
        rw [elo, ehi]
        exact diagonals_det n m mc ((n : Int) - m) mc w1 (by omega) (by omega) (by omega) (by omega) (by omega) (by omega) (by omega) (by omega) (by omega) (by omega) (by omega)
      clear elo ehi
      go_wp2_with fail
      clear g0 g1
      have ne := ext_nonempty wr
      have g0 := fun y => wext_cell wr y HI2.out.2.2.g0
      have g1 := fun y => wext_cell wr y HI2.out.2.2.g1
      have g2 := fun y => wext_cell wr y HI2.out.2.2.g2
      have c6 := fun y => wext_cell wr y HI2.out.1.c6
      refine wp_region_ext (by kernel_rfl) (by kernel_rfl) ?_
      repeat (go_big_quiet_step ((go_at_call 39; exact Calls.ext (hcall.out _))))
      refine wpQuiet_nil ?_
      clear g0 g1 g2 c6 ne hcall
      intro w4 hb4
      have HI4 : Hid (DW w4 bd va vb vr vad bf bk mc ∧ TW w4 bf bk mc F G ∧ GW w4 bg n m mc) := ⟨HI2.out.1.kept (kept_below hb4) id, HI2.out.2.1.kept (kept_below hb4) id id, HI2.out.2.2.kept (kept_below hb4) id⟩
      have HB4 : Hid (Below w.heap.size w w4) := HB1.out.trans ((HB2.out.trans (hb4.mono HB2.out.size)).mono HB1.out.size)
      clear HI2 HB2 hb4 HI1 HB1
      obtain ⟨⟨r1, r2, r3, r4⟩, s1, s2, s3⟩ := hD2.out
      have HL2 : Hid ((∃ z : Int, lo' = (n : Int) - m - mc + 2 * z) ∧ (lo' = (n : Int) - m - mc ∨ lo' ≤ -(m : Int) + 1) ∧ (hi' = (n : Int) - m + (mc : Int) ∨ hi' = n)) := ⟨r3, r4, s3⟩
      have HFB : Hid (Plain.FarB (tab A B) n m mc X Y B' lo') := Plain.farF_done hfar.out (by have := HL.out; omega) hmc hfew (by omega) r3
      clear r3 r4 s3 hD2 hfar HL
      obtain ⟨wo, ewo⟩ : ∃ wo : World, wo = wr := ⟨_, rfl⟩
      clear ewo
      go_wp2_with fail
      go_loopw [4, 5, 6, 12] (fun x y best k wr => ∃ X Y B' K : Int, x = .int .i64 X ∧ y = .int .i64 Y ∧ best = .int .i64 B' ∧ k = .int .i64 K ∧ K ≤ hi' + 2 ∧ Hid (Plain.FarB (tab A B) n m mc X Y B' K) ∧ Below w4.heap.size w4 wr) (fun x y best k wr => (hi' + 3 - intOf k).toNat)
      case atStart => exact ⟨X, Y, B', lo', rfl, rfl, rfl, rfl, by have := HL2.out; omega, HFB.out, Below.refl _ _⟩
      case round =>
        clear HFB lo1 lo2 bd1 bd2 hk hK
        obtain ⟨X2, Y2, B2, K, rfl, rfl, rfl, rfl, hK, hfar, hbw⟩ := hrel
        obtain ⟨lo1, lo2⟩ := hfar.out.lo
        obtain ⟨bd1, bd2⟩ := hfar.out.bd
        have HI2 : Hid (DW wr bd va vb vr vad bf bk mc ∧ TW wr bf bk mc F G ∧ GW wr bg n m mc) := ⟨HI4.out.1.kept (kept_below hbw) id, HI4.out.2.1.kept (kept_below hbw) id id, HI4.out.2.2.kept (kept_below hbw) id⟩
        have HB2 : Hid (Below w4.heap.size w4 wr) := hbw
        clear hbw
        by_cases hk : K ≤ hi'
        · have hg : Plain.GoodB (tab A B) n m mc K (G (K - ((n : Int) - m) + mc + 1).toNat) := Plain.bok_at HM.out.2 hfar.out.par (by omega) (by have := HL2.out; omega)
          obtain ⟨i, ei⟩ : ∃ i : Nat, i = (K - ((n : Int) - m) + mc + 1).toNat := ⟨_, rfl⟩
          obtain ⟨T, eT⟩ : ∃ T : Nat, T = 2 * mc + 3 := ⟨_, rfl⟩
          have hcall : Hid (∀ w1, Calls Try.prog 41 #[.agg #[.int .i64 n, .int .i64 m, .int .i64 mc], .int .i64 ((n : Int) - m), .int .i64 K] w1 fun e w' => e = .returned (.int .i64 (i : Int)) ∧ Below w1.heap.size w1 w') := fun w1 => by
            rw [show (i : Int) = K - ((n : Int) - m) + mc + 1 from by omega]
            exact index_any n m mc ((n : Int) - m) K w1 (by omega) (by omega) (by omega) (by omega) (by omega) (by omega)
          have ne := ext_nonempty wr
          have g0 := fun y => wext_cell wr y HI2.out.2.2.g0
          have g1 := fun y => wext_cell wr y HI2.out.2.2.g1
          have g2 := fun y => wext_cell wr y HI2.out.2.2.g2
          have c4 := fun y => wext_cell wr y (eT ▸ HI2.out.1.c5)
          have ci := fun y => wext_cell wr y (HI2.out.2.1.g.cell (i := i) (by omega))
          have i1 : (0 : Int) ≤ (i : Int) := by omega
          have i2 : (i : Int) < (T : Int) := by omega
          obtain ⟨v, ev⟩ : ∃ v, v = G i := ⟨_, rfl⟩
          rw [← ev] at ci
          rw [← ei, ← ev] at hg
          clear ei eT ev
          have v1 : -1 ≤ v := hg.2.1
          have v2 : v ≤ n := hg.1
          have HG : Hid (Plain.GoodB (tab A B) n m mc K v) := hg
          clear hg
          go_wp2_with fail
          refine wp_region_ext (by kernel_rfl) (by kernel_rfl) ?_
          repeat (go_big_quiet_step ((go_at_call 41; exact Calls.ext (hcall.out _))))
          refine wpQuiet_nil ?_
          clear g0 g1 g2 c4 ci ne hcall
          intro w3 hb3
          have HB3 : Hid (Below w4.heap.size w4 w3) := HB2.out.trans (hb3.mono HB2.out.size)
          have k0 := cell_later hb3 HI2.out.2.2.g0
          have k1 := cell_later hb3 HI2.out.2.2.g1
          clear HI2 HB2 hb3
          by_cases b1 : v = -1
          · have d1 : (v != -1) = false := by simpa using b1
            have HV : Hid (v = -1) := b1
            clear b1
            go_wp2
            go_roundw
            case rel => exact ⟨X2, Y2, B2, K + 2, rfl, rfl, rfl, rfl, by omega, Plain.farB_skip hfar.out, HB3.out⟩
            case measure => simp [intOf]; omega
          · by_cases b2 : B2 < (n : Int) + m - (2 * v - K)
            · go_wp2_with fail
              go_quiet (fail)
              go_wp2
              go_roundw
              case rel => exact ⟨v, v - K, (n : Int) + m - (2 * v - K), K + 2, rfl, rfl, rfl, rfl, by omega, Plain.farB_take hfar.out HG.out b1 b2, below_drewN HB3.out _⟩
              case measure => simp [intOf]; omega
            · go_wp2
              go_roundw
              case rel => exact ⟨X2, Y2, B2, K + 2, rfl, rfl, rfl, rfl, by omega, Plain.farB_skip hfar.out, HB3.out⟩
              case measure => simp [intOf]; omega
        · go_wp2
          go_ret2
          obtain ⟨px, py, e1, e2, hin⟩ := Plain.farB_done hfar.out hfew
          refine ⟨px, py, ?_, hin, HB4.out.trans (HB2.out.mono HB4.out.size)⟩
          rw [← e1, ← e2]
          rfl

end Go.Proofs.Qxb6600330a
