import Derived.Test.Qxb6600330aFrame
import Derived.Test.Qxb6600330aSlide
import Derived.Test.Qxb6600330aMeet
import Derived.Deep.RegionHeld3
namespace Go.Proofs.Qxb6600330a
open Go.RowKit
set_option linter.unusedVariables false
section
variable {Q : Exit → Act → World → Prop} {a : Act} {w0 w : World} {bd bg ba bb bf bk : Nat} {va vb vr vad : Value} {alo blo n m ca cb c mc : Nat} {A B F G : Nat → Int} {hi k x : Int}

set_option maxRecDepth 100000 in
set_option maxHeartbeats 1000000 in
/-- no walk back along the diagonal -/
theorem b41_no (hf : BX a bd bg ba bb alo blo n m ca cb c hi k (-1)) (hQ : ∀ a', BX a' bd bg ba bb alo blo n m ca cb c hi k (-1) → Q .normal a' w) :
    Code.wp Try.prog (nav [1, 1, 1, 1, 0, 1, 0, 0, 1, 0, 0, 1, 1, 1, 1, 0, 0, 1, 0, 0, 1, 1, 1, 1, 0] (Try.f36.body.getD .skip)) Q a w := by
  refine lit344 (p := fun a => BX a bd bg ba bb alo blo n m ca cb c hi k (-1) → Code.wp Try.prog (nav [1, 1, 1, 1, 0, 1, 0, 0, 1, 0, 0, 1, 1, 1, 1, 0, 0, 1, 0, 0, 1, 1, 1, 1, 0] (Try.f36.body.getD .skip)) Q a w) ?_ a hf.sz hf.df hf
  clear hf
  intro u0 u1 _ u3 _ _ _ _ _ _ _ _ u12 u13 u14 u15 u16 u17 u18 _ u20 _ _ _ _ _ u26 u27 _ _ _ _ _ _ _ _ _ _ _ _ _ _ _ _ _ _ _ _ _ _ _ _ _ _ _ _ _ _ _ _ _ _ _ _ _ _ _ _ _ _ _ _ _ _ _ _ _ _ _ _ _ _ _ _ _ _ _ _ _ _ _ _ _ _ _ _ _ _ _ _ _ _ _ _ _ _ _ _ _ _ _ _ _ _ _ _ _ _ _ _ _ _ _ _ _ _ _ _ _ _ _ _ _ _ _ _ _ _ _ _ _ _ _ _ _ _ _ _ _ _ _ _ _ _ _ _ _ _ _ _ _ _ _ _ _ _ _ _ _ _ _ _ _ _ _ _ _ _ _ _ _ _ _ _ _ _ _ _ _ _ _ _ _ _ _ _ _ _ _ _ _ _ _ _ _ _ _ _ _ _ _ _ _ _ _ _ _ _ _ _ _ _ _ _ _ _ _ _ _ _ _ _ _ _ _ _ _ _ _ _ _ _ _ _ _ _ _ _ _ _ _ _ _ _ _ _ _ _ _ _ _ _ _ _ _ _ _ _ _ _ _ _ _ _ _ _ _ _ _ _ _ _ _ _ _ _ _ _ _ _ _ _ _ _ _ _ _ _ _ _ _ _ _ _ _ _ _ _ _ _ _ _ _ _ _ _ _ _ _ _ _ _ _ _ _ _ _ _ _ _ _ _ _ _ _ _ _ _ _ _ _ _ _ _ hf
  have e0 := hf.t0
  have e1 := hf.t1
  have e3 := hf.t3
  have e12 := hf.t12
  have e13 := hf.t13
  have e14 := hf.t14
  have e15 := hf.t15
  have e16 := hf.t16
  have e17 := hf.t17
  have e18 := hf.t18
  have e20 := hf.t20
  have e26 := hf.t26
  have e27 := hf.t27
  clear hf
  change u0 = _ at e0; change u1 = _ at e1; change u3 = _ at e3; change u12 = _ at e12; change u13 = _ at e13; change u14 = _ at e14; change u15 = _ at e15; change u16 = _ at e16; change u17 = _ at e17; change u18 = _ at e18; change u20 = _ at e20; change u26 = _ at e26; change u27 = _ at e27
  subst e0 e1 e3 e12 e13 e14 e15 e16 e17 e18 e20 e26 e27
  conv => arg 2; whnf
  go_wp2
  exact ⟨⟨⟨rfl, rfl, rfl, rfl, rfl, rfl, rfl, rfl, rfl, rfl, rfl, rfl⟩, rfl, rfl⟩, rfl⟩

set_option maxRecDepth 100000 in
set_option maxHeartbeats 1000000 in
/-- the walk back along the diagonal -/
theorem b41 (X Y : Nat) (hf : BX a bd bg ba bb alo blo n m ca cb c hi k (X : Int)) (hw : WI w0 w bd bg ba bb bf bk va vb vr vad alo blo n m mc A B F G) (h1 : n ≤ 5000) (h2 : m ≤ 5000) (h3 : mc ≤ 9000) (h4 : c ≤ mc) (h5 : -20000 ≤ k) (h6 : k ≤ 20000) (hk : (X : Int) - Y = k) (hX : X ≤ n) (hY : Y ≤ m) (hca : n ≤ ca) (hcb : m ≤ cb)
    (hQ : ∀ a' w' x', BX a' bd bg ba bb alo blo n m ca cb c hi k x' → Plain.SlidB (tab A B) n m k X x' → WI w0 w' bd bg ba bb bf bk va vb vr vad alo blo n m mc A B F G → Q .normal a' w') :
    Code.wp Try.prog (nav [1, 1, 1, 1, 0, 1, 0, 0, 1, 0, 0, 1, 1, 1, 1, 0, 0, 1, 0, 0, 1, 1, 1, 1, 0] (Try.f36.body.getD .skip)) Q a w := by
  have ra := hw.a
  have rb := hw.b
  have HW : Hid (WI w0 w bd bg ba bb bf bk va vb vr vad alo blo n m mc A B F G) := hw
  have HK : Hid ((X : Int) - Y = k) := hk
  clear hw hk
  refine lit344 (p := fun a => BX a bd bg ba bb alo blo n m ca cb c hi k (X : Int) → Code.wp Try.prog (nav [1, 1, 1, 1, 0, 1, 0, 0, 1, 0, 0, 1, 1, 1, 1, 0, 0, 1, 0, 0, 1, 1, 1, 1, 0] (Try.f36.body.getD .skip)) Q a w) ?_ a hf.sz hf.df hf
  clear hf
  intro u0 u1 _ u3 _ _ _ _ _ _ _ _ u12 u13 u14 u15 u16 u17 u18 _ u20 _ _ _ _ _ u26 u27 _ _ _ _ _ _ _ _ _ _ _ _ _ _ _ _ _ _ _ _ _ _ _ _ _ _ _ _ _ _ _ _ _ _ _ _ _ _ _ _ _ _ _ _ _ _ _ _ _ _ _ _ _ _ _ _ _ _ _ _ _ _ _ _ _ _ _ _ _ _ _ _ _ _ _ _ _ _ _ _ _ _ _ _ _ _ _ _ _ _ _ _ _ _ _ _ _ _ _ _ _ _ _ _ _ _ _ _ _ _ _ _ _ _ _ _ _ _ _ _ _ _ _ _ _ _ _ _ _ _ _ _ _ _ _ _ _ _ _ _ _ _ _ _ _ _ _ _ _ _ _ _ _ _ _ _ _ _ _ _ _ _ _ _ _ _ _ _ _ _ _ _ _ _ _ _ _ _ _ _ _ _ _ _ _ _ _ _ _ _ _ _ _ _ _ _ _ _ _ _ _ _ _ _ _ _ _ _ _ _ _ _ _ _ _ _ _ _ _ _ _ _ _ _ _ _ _ _ _ _ _ _ _ _ _ _ _ _ _ _ _ _ _ _ _ _ _ _ _ _ _ _ _ _ _ _ _ _ _ _ _ _ _ _ _ _ _ _ _ _ _ _ _ _ _ _ _ _ _ _ _ _ _ _ _ _ _ _ _ _ _ _ _ _ _ _ _ _ _ _ _ _ _ _ _ _ _ _ _ _ _ _ _ _ _ _ hf
  have e0 := hf.t0
  have e1 := hf.t1
  have e3 := hf.t3
  have e12 := hf.t12
  have e13 := hf.t13
  have e14 := hf.t14
  have e15 := hf.t15
  have e16 := hf.t16
  have e17 := hf.t17
  have e18 := hf.t18
  have e20 := hf.t20
  have e26 := hf.t26
  have e27 := hf.t27
  clear hf
  change u0 = _ at e0; change u1 = _ at e1; change u3 = _ at e3; change u12 = _ at e12; change u13 = _ at e13; change u14 = _ at e14; change u15 = _ at e15; change u16 = _ at e16; change u17 = _ at e17; change u18 = _ at e18; change u20 = _ at e20; change u26 = _ at e26; change u27 = _ at e27
  subst e0 e1 e3 e12 e13 e14 e15 e16 e17 e18 e20 e26 e27
  conv => arg 2; whnf
  have hx1 : (0 : Int) ≤ (X : Int) := by omega
  go_wp2_with fail
  go_loopw [27] (fun v wr => ∃ p q t : Nat, Hid (p + t = X ∧ q + t = Y) ∧ v = .int .i64 (p : Int) ∧ (∀ u, u < t → A (p + u) = B (q + u)) ∧ Below w.heap.size w wr) (fun v wr => (intOf v).toNat)
  case atStart => exact ⟨X, Y, 0, ⟨by omega, by omega⟩, rfl, fun u hu => absurd hu (by omega), Below.refl _ _⟩
  case round =>
    obtain ⟨p, q, t, HE, rfl, hall, hbw⟩ := hrel
    have HA : Hid (∀ u, u < t → A (p + u) = B (q + u)) := hall
    have HB : Hid (Below w.heap.size w wr) := hbw
    clear hall hbw
    have hp0 : (0 : Int) ≤ (p : Int) := by omega
    have hpn : (p : Int) ≤ n := by have := HE.out; omega
    by_cases q1 : (0 : Int) < (p : Int)
    · by_cases q2 : k < (p : Int)
      · have q1n : 0 < p := by omega
        have q2b : 0 < (p : Int) - k := by omega
        have q2c : decide (k < (p : Int)) = true := by simpa using q2
        have q2d : decide (0 < (p : Int) - k) = true := by simpa using q2b
        have q3 : (p : Int) - k ≤ m := by have := HE.out; have := HK.out; omega
        have ca1 : wr.cell? ⟨ba, alo + (p - 1), none⟩ = some (.int .i64 (A (p - 1))) := cell_later HB.out (ra _ (by omega))
        have cb1 : wr.cell? ⟨bb, blo + (((p : Int) - k).toNat - 1), none⟩ = some (.int .i64 (B (q - 1))) := by
          have := rb (q - 1) (by have := HK.out; have := HE.out; omega)
          rw [show ((p : Int) - k).toNat - 1 = q - 1 from by have := HK.out; have := HE.out; omega]
          exact cell_later HB.out this
        go_wp2_with fail
        go_quiet (fail)
        go_wp2
        · have e : A (p - 1) = B (q - 1) := eq_of_beq (by assumption)
          go_roundw
          case rel => exact ⟨p - 1, q - 1, t + 1, ⟨by have := HE.out; omega, by have := HE.out; have := HK.out; omega⟩, by go_num, fun u hu => by
            have he := HE.out
            have hk := HK.out
            by_cases hut : u = 0
            · subst hut
              exact e
            · have := HA.out (u - 1) (by omega)
              rw [show p + (u - 1) = p - 1 + u from by omega, show q + (u - 1) = q - 1 + u from by omega] at this
              exact this, below_drewN HB.out _⟩
          case measure => simp [intOf]; omega
        · have e : ¬ A (p - 1) = B (q - 1) := ne_of_beq_false (by assumption)
          have hb2 : Below w.heap.size w (wr.drewN nq) := below_drewN HB.out _
          have he := HE.out
          have hk := HK.out
          exact hQ _ _ _ ⟨⟨⟨rfl, rfl, rfl, rfl, rfl, rfl, rfl, rfl, rfl, rfl, rfl, rfl⟩, rfl, rfl⟩, rfl⟩ ⟨p, q, t, by omega, by omega, rfl, by omega, by omega, fun u hu => tab_true.2 (HA.out u hu), fun h => e (tab_true.1 h.2.2)⟩ (HW.out.below hb2)
      · have q2' : decide (k < (p : Int)) = false := by simpa using q2
        have q1n : 0 < p := by omega
        go_wp2_with fail
        go_quiet (fail)
        go_wp2
        have hb2 : Below w.heap.size w (wr.drewN nq) := below_drewN HB.out _
        have he := HE.out
        have hk := HK.out
        exact hQ _ _ _ ⟨⟨⟨rfl, rfl, rfl, rfl, rfl, rfl, rfl, rfl, rfl, rfl, rfl, rfl⟩, rfl, rfl⟩, rfl⟩ ⟨p, q, t, by omega, by omega, rfl, by omega, by omega, fun u hu => tab_true.2 (HA.out u hu), fun h => by omega⟩ (HW.out.below hb2)
    · have q1' : decide ((0 : Int) < (p : Int)) = false := by simpa using q1
      have q1n : decide (0 < p) = false := by simp; omega
      go_wp2_with fail
      go_quiet (fail)
      go_wp2
      have hb2 : Below w.heap.size w (wr.drewN nq) := below_drewN HB.out _
      have he := HE.out
      have hk := HK.out
      exact hQ _ _ _ ⟨⟨⟨rfl, rfl, rfl, rfl, rfl, rfl, rfl, rfl, rfl, rfl, rfl, rfl⟩, rfl, rfl⟩, rfl⟩ ⟨p, q, t, by omega, by omega, rfl, by omega, by omega, fun u hu => tab_true.2 (HA.out u hu), fun h => by omega⟩ (HW.out.below hb2)


set_option maxRecDepth 100000 in
set_option maxHeartbeats 1000000 in
/-- d.backward[g.index(delta, k)] = x -/
theorem b44 (hf : BX a bd bg ba bb alo blo n m ca cb c hi k x) (hw : WI w0 w bd bg ba bb bf bk va vb vr vad alo blo n m mc A B F G) (h1 : n ≤ 5000) (h2 : m ≤ 5000) (h3 : mc ≤ 9000) (h4 : c ≤ mc) (h5 : (n : Int) - m - c ≤ k) (h6 : k ≤ (n : Int) - m + c)
    (hQ : ∀ a' w', BX a' bd bg ba bb alo blo n m ca cb c hi k x → WI w0 w' bd bg ba bb bf bk va vb vr vad alo blo n m mc A B F (upd G (k - ((n : Int) - m) + mc + 1).toNat x) → Q .normal a' w') :
    Code.wp Try.prog (nav [1, 1, 1, 1, 0, 1, 0, 0, 1, 0, 0, 1, 1, 1, 1, 0, 0, 1, 0, 0, 1, 1, 1, 1, 1, 0] (Try.f36.body.getD .skip)) Q a w := by
  obtain ⟨i, ei⟩ : ∃ i : Nat, i = (k - ((n : Int) - m) + mc + 1).toNat := ⟨_, rfl⟩
  obtain ⟨T, eT⟩ : ∃ T : Nat, T = 2 * mc + 3 := ⟨_, rfl⟩
  have hcall : Hid (∀ w1, Calls Try.prog 41 #[.agg #[.int .i64 n, .int .i64 m, .int .i64 mc], .int .i64 ((n : Int) - m), .int .i64 k] w1 fun e w' => e = .returned (.int .i64 (i : Int)) ∧ Below w1.heap.size w1 w') := fun w1 => by
    rw [show (i : Int) = k - ((n : Int) - m) + mc + 1 from by omega]
    exact index_any n m mc ((n : Int) - m) k w1 (by omega) (by omega) (by omega) (by omega) (by omega) (by omega)
  have fin : Hid (∀ w1, Below w.heap.size w w1 → WI w0 (w1.setCell ⟨bk, i, none⟩ (.int .i64 x)) bd bg ba bb bf bk va vb vr vad alo blo n m mc A B F (upd G i x)) := fun w1 hb => (hw.below hb).setG i x
  rw [← ei] at hQ
  have g0 := hw.g.g0
  have g1 := hw.g.g1
  have g2 := hw.g.g2
  have c4 := hw.d.c5
  have hr : Hid (w.rowIs bk 3 T (fun i => .int .i64 (G i))) := eT ▸ hw.t.g
  have nd1 : bd ≠ bk := fun e => hw.nd (.inr e)
  have ng1 : bg ≠ bk := fun e => hw.ng (.inr e)
  rw [← eT] at c4
  have i1 : (0 : Int) ≤ (i : Int) := by omega
  have i2 : (i : Int) < (T : Int) := by omega
  have i3 : i < T := by omega
  clear hw eT ei
  refine lit344 (p := fun a => BX a bd bg ba bb alo blo n m ca cb c hi k x → Code.wp Try.prog (nav [1, 1, 1, 1, 0, 1, 0, 0, 1, 0, 0, 1, 1, 1, 1, 0, 0, 1, 0, 0, 1, 1, 1, 1, 1, 0] (Try.f36.body.getD .skip)) Q a w) ?_ a hf.sz hf.df hf
  clear hf
  intro u0 u1 _ u3 _ _ _ _ _ _ _ _ u12 u13 u14 u15 u16 u17 u18 _ u20 _ _ _ _ _ u26 u27 _ _ _ _ _ _ _ _ _ _ _ _ _ _ _ _ _ _ _ _ _ _ _ _ _ _ _ _ _ _ _ _ _ _ _ _ _ _ _ _ _ _ _ _ _ _ _ _ _ _ _ _ _ _ _ _ _ _ _ _ _ _ _ _ _ _ _ _ _ _ _ _ _ _ _ _ _ _ _ _ _ _ _ _ _ _ _ _ _ _ _ _ _ _ _ _ _ _ _ _ _ _ _ _ _ _ _ _ _ _ _ _ _ _ _ _ _ _ _ _ _ _ _ _ _ _ _ _ _ _ _ _ _ _ _ _ _ _ _ _ _ _ _ _ _ _ _ _ _ _ _ _ _ _ _ _ _ _ _ _ _ _ _ _ _ _ _ _ _ _ _ _ _ _ _ _ _ _ _ _ _ _ _ _ _ _ _ _ _ _ _ _ _ _ _ _ _ _ _ _ _ _ _ _ _ _ _ _ _ _ _ _ _ _ _ _ _ _ _ _ _ _ _ _ _ _ _ _ _ _ _ _ _ _ _ _ _ _ _ _ _ _ _ _ _ _ _ _ _ _ _ _ _ _ _ _ _ _ _ _ _ _ _ _ _ _ _ _ _ _ _ _ _ _ _ _ _ _ _ _ _ _ _ _ _ _ _ _ _ _ _ _ _ _ _ _ _ _ _ _ _ _ _ _ _ _ _ _ _ _ _ _ _ _ _ _ hf
  have e0 := hf.t0
  have e1 := hf.t1
  have e3 := hf.t3
  have e12 := hf.t12
  have e13 := hf.t13
  have e14 := hf.t14
  have e15 := hf.t15
  have e16 := hf.t16
  have e17 := hf.t17
  have e18 := hf.t18
  have e20 := hf.t20
  have e26 := hf.t26
  have e27 := hf.t27
  clear hf
  change u0 = _ at e0; change u1 = _ at e1; change u3 = _ at e3; change u12 = _ at e12; change u13 = _ at e13; change u14 = _ at e14; change u15 = _ at e15; change u16 = _ at e16; change u17 = _ at e17; change u18 = _ at e18; change u20 = _ at e20; change u26 = _ at e26; change u27 = _ at e27
  subst e0 e1 e3 e12 e13 e14 e15 e16 e17 e18 e20 e26 e27
  conv => arg 2; whnf
  go_wp2_with fail
  go_region_held3 (fun w' => w'.cell? ⟨bd, 5, none⟩ = some (.slice (some ⟨bk, 0, none⟩) T T) ∧ w'.cell? ⟨bg, 0, none⟩ = some (.int .i64 n) ∧ w'.cell? ⟨bg, 1, none⟩ = some (.int .i64 m) ∧ w'.cell? ⟨bg, 2, none⟩ = some (.int .i64 mc)) (first | go_keep | exact ⟨cell_set_other (by assumption) nd1, cell_set_other (by assumption) ng1, cell_set_other (by assumption) ng1, cell_set_other (by assumption) ng1⟩)
    ((go_at_call 41; refine (hcall.out _).mono ?_; rintro e w1 ⟨rfl, hb1⟩; have k4 := cell_later hb1 c4; have k0 := cell_later hb1 g0; have k1 := cell_later hb1 g1; have k2 := cell_later hb1 g2; have kr := (kept_below hb1).row (show w.drew.rowIs _ _ _ _ from hr.out) id; have kc := kr.cell i3; have kz := kr.frozen i))
  exact hQ _ _ ⟨⟨⟨rfl, rfl, rfl, rfl, rfl, rfl, rfl, rfl, rfl, rfl, rfl, rfl⟩, rfl, rfl⟩, rfl⟩ (fin.out _ (below_undrew (by assumption)))

set_option maxRecDepth 100000 in
set_option maxHeartbeats 1000000 in
/-- do the searches meet? -/
theorem b45 (hf : BX a bd bg ba bb alo blo n m ca cb c hi k x) (hw : WI w0 w bd bg ba bb bf bk va vb vr vad alo blo n m mc A B F G) (h1 : n ≤ 5000) (h2 : m ≤ 5000) (h3 : mc ≤ 9000) (h4 : c ≤ mc) (h5 : -20000 ≤ k) (h6 : k ≤ 20000) (hx : -1 ≤ x ∧ x ≤ n) (hal : alo ≤ 5000) (hbl : blo ≤ 5000) (hv : ((n : Int) - m).tmod 2 = 0 → -1 ≤ atv F n m mc 0 k (c : Int) ∧ atv F n m mc 0 k (c : Int) ≤ n)
    (hR : ∀ a' w', FRet a' ((alo : Int) + x) ((blo : Int) + x - k) → WI w0 w' bd bg ba bb bf bk va vb vr vad alo blo n m mc A B F G → ((n : Int) - m).tmod 2 = 0 → x ≠ -1 → atv F n m mc 0 k (c : Int) ≠ -1 → x ≤ atv F n m mc 0 k (c : Int) → Q .ret a' w')
    (hQ : ∀ a' w', BX a' bd bg ba bb alo blo n m ca cb c hi k x → WI w0 w' bd bg ba bb bf bk va vb vr vad alo blo n m mc A B F G → (((n : Int) - m).tmod 2 = 0 → x ≠ -1 → atv F n m mc 0 k (c : Int) ≠ -1 → atv F n m mc 0 k (c : Int) < x) → Q .normal a' w') :
    Code.wp Try.prog (nav [1, 1, 1, 1, 0, 1, 0, 0, 1, 0, 0, 1, 1, 1, 1, 0, 0, 1, 0, 0, 1, 1, 1, 1, 1, 1] (Try.f36.body.getD .skip)) Q a w := by
  have ne := ext_nonempty w
  have g0 := fun y => wext_cell w y hw.g.g0
  have g1 := fun y => wext_cell w y hw.g.g1
  have g2 := fun y => wext_cell w y hw.g.g2
  have c4 := fun y => wext_cell w y hw.d.c4
  obtain ⟨v, ev⟩ : ∃ v, v = atv F n m mc 0 k (c : Int) := ⟨_, rfl⟩
  have hcall : Hid (∀ y, Calls Try.prog 40 #[.agg #[.int .i64 n, .int .i64 m, .int .i64 mc], .slice (some ⟨bf, 0, none⟩) (2 * mc + 3) (2 * mc + 3), .int .i64 0, .int .i64 k, .int .i64 (c : Int)] (wext w y) fun e w' => e = .returned (.int .i64 v) ∧ Below (wext w y).heap.size (wext w y) w') := fun y => by
    rw [ev]
    exact at_any n m mc 0 k _ bf F _ (by omega) (by omega) (by omega) (by omega) (by omega) (by omega) (by omega) (by omega) (by omega) ((kept_below (wext_below w y)).row hw.t.f id)
  have HW : Hid (WI w0 w bd bg ba bb bf bk va vb vr vad alo blo n m mc A B F G) := hw
  rw [← ev] at hQ hv hR
  clear ev hw
  obtain ⟨hx1, hx2⟩ := hx
  refine lit344 (p := fun a => BX a bd bg ba bb alo blo n m ca cb c hi k x → Code.wp Try.prog (nav [1, 1, 1, 1, 0, 1, 0, 0, 1, 0, 0, 1, 1, 1, 1, 0, 0, 1, 0, 0, 1, 1, 1, 1, 1, 1] (Try.f36.body.getD .skip)) Q a w) ?_ a hf.sz hf.df hf
  clear hf
  intro u0 u1 _ u3 _ _ _ _ _ _ _ _ u12 u13 u14 u15 u16 u17 u18 _ u20 _ _ _ _ _ u26 u27 _ _ _ _ _ _ _ _ _ _ _ _ _ _ _ _ _ _ _ _ _ _ _ _ _ _ _ _ _ _ _ _ _ _ _ _ _ _ _ _ _ _ _ _ _ _ _ _ _ _ _ _ _ _ _ _ _ _ _ _ _ _ _ _ _ _ _ _ _ _ _ _ _ _ _ _ _ _ _ _ _ _ _ _ _ _ _ _ _ _ _ _ _ _ _ _ _ _ _ _ _ _ _ _ _ _ _ _ _ _ _ _ _ _ _ _ _ _ _ _ _ _ _ _ _ _ _ _ _ _ _ _ _ _ _ _ _ _ _ _ _ _ _ _ _ _ _ _ _ _ _ _ _ _ _ _ _ _ _ _ _ _ _ _ _ _ _ _ _ _ _ _ _ _ _ _ _ _ _ _ _ _ _ _ _ _ _ _ _ _ _ _ _ _ _ _ _ _ _ _ _ _ _ _ _ _ _ _ _ _ _ _ _ _ _ _ _ _ _ _ _ _ _ _ _ _ _ _ _ _ _ _ _ _ _ _ _ _ _ _ _ _ _ _ _ _ _ _ _ _ _ _ _ _ _ _ _ _ _ _ _ _ _ _ _ _ _ _ _ _ _ _ _ _ _ _ _ _ _ _ _ _ _ _ _ _ _ _ _ _ _ _ _ _ _ _ _ _ _ _ _ _ _ _ _ _ _ _ _ _ _ _ _ _ _ _ hf
  have e0 := hf.t0
  have e1 := hf.t1
  have e3 := hf.t3
  have e12 := hf.t12
  have e13 := hf.t13
  have e14 := hf.t14
  have e15 := hf.t15
  have e16 := hf.t16
  have e17 := hf.t17
  have e18 := hf.t18
  have e20 := hf.t20
  have e26 := hf.t26
  have e27 := hf.t27
  clear hf
  change u0 = _ at e0; change u1 = _ at e1; change u3 = _ at e3; change u12 = _ at e12; change u13 = _ at e13; change u14 = _ at e14; change u15 = _ at e15; change u16 = _ at e16; change u17 = _ at e17; change u18 = _ at e18; change u20 = _ at e20; change u26 = _ at e26; change u27 = _ at e27
  subst e0 e1 e3 e12 e13 e14 e15 e16 e17 e18 e20 e26 e27
  conv => arg 2; whnf
  by_cases d1 : ((n : Int) - m).tmod 2 = 0
  · have d2 : (((n : Int) - m).tmod 2 == 0) = true := by simpa using d1
    obtain ⟨hv1, hv2⟩ := hv d1
    have HD : Hid (((n : Int) - m).tmod 2 = 0) := d1
    clear d1
    by_cases b0 : x = -1
    · have d3 : (x != -1) = false := by simpa using b0
      have HB0 : Hid (x = -1) := b0
      clear b0
      go_wp2
      exact hQ _ _ ⟨⟨⟨rfl, rfl, rfl, rfl, rfl, rfl, rfl, rfl, rfl, rfl, rfl, rfl⟩, rfl, rfl⟩, rfl⟩ HW.out (fun _ h => absurd HB0.out h)
    · have d3 : (x != -1) = true := by simpa using b0
      go_wp2_with fail
      refine wp_region_ext (by kernel_rfl) (by kernel_rfl) ?_
      repeat (go_big_quiet_step ((go_at_call 40; exact Calls.ext (hcall.out _))))
      refine wpQuiet_nil ?_
      clear hcall g0 g1 g2 c4 ne
      intro w1 hb1
      have HW1 : Hid (WI w0 w1 bd bg ba bb bf bk va vb vr vad alo blo n m mc A B F G) := HW.out.below hb1
      clear HW hb1
      by_cases b1 : v = -1
      · subst b1
        go_wp2
        exact hQ _ _ ⟨⟨⟨rfl, rfl, rfl, rfl, rfl, rfl, rfl, rfl, rfl, rfl, rfl, rfl⟩, rfl, rfl⟩, rfl⟩ HW1.out (fun _ _ h => absurd rfl h)
      · by_cases b2 : x ≤ v
        · go_wp2
          exact hR _ _ ⟨rfl, rfl, rfl⟩ HW1.out HD.out b0 b1 b2
        · go_wp2
          exact hQ _ _ ⟨⟨⟨rfl, rfl, rfl, rfl, rfl, rfl, rfl, rfl, rfl, rfl, rfl, rfl⟩, rfl, rfl⟩, rfl⟩ HW1.out (fun _ _ _ => by omega)
  · have d2 : (((n : Int) - m).tmod 2 == 0) = false := by simpa using d1
    have HD : Hid (¬ ((n : Int) - m).tmod 2 = 0) := d1
    clear d1
    go_wp2
    exact hQ _ _ ⟨⟨⟨rfl, rfl, rfl, rfl, rfl, rfl, rfl, rfl, rfl, rfl, rfl, rfl⟩, rfl, rfl⟩, rfl⟩ HW.out (fun h => absurd h HD.out)

end
end Go.Proofs.Qxb6600330a
