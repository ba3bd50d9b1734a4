import Derived.Test.Qxb6600330aFrame
import Derived.Deep.RegionHeld3
namespace Go.Proofs.Qxb6600330a
open Go.RowKit
set_option linter.unusedVariables false
section
variable {Q : Exit → Act → World → Prop} {a : Act} {w0 w : World} {bd bg ba bb bf bk : Nat} {va vb vr vad : Value} {alo blo n m ca cb c mc : Nat} {A B F G : Nat → Int} {hi k x : Int}

set_option maxRecDepth 100000 in
set_option maxHeartbeats 1000000 in
/-- x := unreached -/
theorem f11 (hf : FK a bd bg ba bb alo blo n m ca cb c hi k) (hQ : ∀ a', FX a' bd bg ba bb alo blo n m ca cb c hi k (-1) → Q .normal a' w) : Code.wp Try.prog (nav [1, 1, 1, 1, 0, 1, 0, 0, 1, 0, 0, 1, 0, 1, 0, 0, 1, 0, 0, 0] (Try.f36.body.getD .skip)) Q a w := by
  refine lit344 (p := fun a => FK a bd bg ba bb alo blo n m ca cb c hi k → Code.wp Try.prog (nav [1, 1, 1, 1, 0, 1, 0, 0, 1, 0, 0, 1, 0, 1, 0, 0, 1, 0, 0, 0] (Try.f36.body.getD .skip)) Q a w) ?_ a hf.sz hf.df hf
  clear hf
  intro u0 u1 _ u3 _ _ _ _ _ _ _ _ u12 u13 u14 u15 u16 u17 u18 _ u20 u21 _ _ _ _ _ _ _ _ _ _ _ _ _ _ _ _ _ _ _ _ _ _ _ _ _ _ _ _ _ _ _ _ _ _ _ _ _ _ _ _ _ _ _ _ _ _ _ _ _ _ _ _ _ _ _ _ _ _ _ _ _ _ _ _ _ _ _ _ _ _ _ _ _ _ _ _ _ _ _ _ _ _ _ _ _ _ _ _ _ _ _ _ _ _ _ _ _ _ _ _ _ _ _ _ _ _ _ _ _ _ _ _ _ _ _ _ _ _ _ _ _ _ _ _ _ _ _ _ _ _ _ _ _ _ _ _ _ _ _ _ _ _ _ _ _ _ _ _ _ _ _ _ _ _ _ _ _ _ _ _ _ _ _ _ _ _ _ _ _ _ _ _ _ _ _ _ _ _ _ _ _ _ _ _ _ _ _ _ _ _ _ _ _ _ _ _ _ _ _ _ _ _ _ _ _ _ _ _ _ _ _ _ _ _ _ _ _ _ _ _ _ _ _ _ _ _ _ _ _ _ _ _ _ _ _ _ _ _ _ _ _ _ _ _ _ _ _ _ _ _ _ _ _ _ _ _ _ _ _ _ _ _ _ _ _ _ _ _ _ _ _ _ _ _ _ _ _ _ _ _ _ _ _ _ _ _ _ _ _ _ _ _ _ _ _ _ _ _ _ _ _ _ _ _ _ _ _ _ _ _ _ _ _ _ _ _ _ _ _ _ _ _ hf
  have e0 := hf.t0
  have e1 := hf.t1
  have e3 := hf.t3
  have e12 := hf.t12
  have e13 := hf.t13
  have e14 := hf.t14
  have e15 := hf.t15
  have e16 := hf.t16
  have e17 := hf.t17
  have e18 := hf.t18
  have e20 := hf.t20
  have e21 := hf.t21
  clear hf
  change u0 = _ at e0; change u1 = _ at e1; change u3 = _ at e3; change u12 = _ at e12; change u13 = _ at e13; change u14 = _ at e14; change u15 = _ at e15; change u16 = _ at e16; change u17 = _ at e17; change u18 = _ at e18; change u20 = _ at e20; change u21 = _ at e21
  subst e0 e1 e3 e12 e13 e14 e15 e16 e17 e18 e20 e21
  conv => arg 2; whnf
  go_wp2
  exact ⟨⟨⟨rfl, rfl, rfl, rfl, rfl, rfl, rfl, rfl, rfl, rfl, rfl, rfl⟩, rfl, rfl⟩, rfl⟩

set_option maxRecDepth 100000 in
set_option maxHeartbeats 1000000 in
/-- at no cost x = 0 -/
theorem f12 (hf : FX a bd bg ba bb alo blo n m ca cb c hi k x) (hQ : ∀ a', FX a' bd bg ba bb alo blo n m ca cb c hi k (if c = 0 then 0 else x) → Q .normal a' w) : Code.wp Try.prog (nav [1, 1, 1, 1, 0, 1, 0, 0, 1, 0, 0, 1, 0, 1, 0, 0, 1, 0, 0, 1, 0] (Try.f36.body.getD .skip)) Q a w := by
  refine lit344 (p := fun a => FX a bd bg ba bb alo blo n m ca cb c hi k x → Code.wp Try.prog (nav [1, 1, 1, 1, 0, 1, 0, 0, 1, 0, 0, 1, 0, 1, 0, 0, 1, 0, 0, 1, 0] (Try.f36.body.getD .skip)) Q a w) ?_ a hf.sz hf.df hf
  clear hf
  intro u0 u1 _ u3 _ _ _ _ _ _ _ _ u12 u13 u14 u15 u16 u17 u18 _ u20 u21 u22 _ _ _ _ _ _ _ _ _ _ _ _ _ _ _ _ _ _ _ _ _ _ _ _ _ _ _ _ _ _ _ _ _ _ _ _ _ _ _ _ _ _ _ _ _ _ _ _ _ _ _ _ _ _ _ _ _ _ _ _ _ _ _ _ _ _ _ _ _ _ _ _ _ _ _ _ _ _ _ _ _ _ _ _ _ _ _ _ _ _ _ _ _ _ _ _ _ _ _ _ _ _ _ _ _ _ _ _ _ _ _ _ _ _ _ _ _ _ _ _ _ _ _ _ _ _ _ _ _ _ _ _ _ _ _ _ _ _ _ _ _ _ _ _ _ _ _ _ _ _ _ _ _ _ _ _ _ _ _ _ _ _ _ _ _ _ _ _ _ _ _ _ _ _ _ _ _ _ _ _ _ _ _ _ _ _ _ _ _ _ _ _ _ _ _ _ _ _ _ _ _ _ _ _ _ _ _ _ _ _ _ _ _ _ _ _ _ _ _ _ _ _ _ _ _ _ _ _ _ _ _ _ _ _ _ _ _ _ _ _ _ _ _ _ _ _ _ _ _ _ _ _ _ _ _ _ _ _ _ _ _ _ _ _ _ _ _ _ _ _ _ _ _ _ _ _ _ _ _ _ _ _ _ _ _ _ _ _ _ _ _ _ _ _ _ _ _ _ _ _ _ _ _ _ _ _ _ _ _ _ _ _ _ _ _ _ _ _ _ _ _ hf
  have e0 := hf.t0
  have e1 := hf.t1
  have e3 := hf.t3
  have e12 := hf.t12
  have e13 := hf.t13
  have e14 := hf.t14
  have e15 := hf.t15
  have e16 := hf.t16
  have e17 := hf.t17
  have e18 := hf.t18
  have e20 := hf.t20
  have e21 := hf.t21
  have e22 := hf.t22
  clear hf
  change u0 = _ at e0; change u1 = _ at e1; change u3 = _ at e3; change u12 = _ at e12; change u13 = _ at e13; change u14 = _ at e14; change u15 = _ at e15; change u16 = _ at e16; change u17 = _ at e17; change u18 = _ at e18; change u20 = _ at e20; change u21 = _ at e21; change u22 = _ at e22
  subst e0 e1 e3 e12 e13 e14 e15 e16 e17 e18 e20 e21 e22
  conv => arg 2; whnf
  by_cases hc : c = 0
  · rw [if_pos hc] at hQ
    have hc1 : (c : Int) ≤ 0 := by omega
    clear hc
    go_wp2
    exact ⟨⟨⟨rfl, rfl, rfl, rfl, rfl, rfl, rfl, rfl, rfl, rfl, rfl, rfl⟩, rfl, rfl⟩, rfl⟩
  · rw [if_neg hc] at hQ
    have hc1 : (1 : Int) ≤ (c : Int) := by omega
    go_wp2
    exact ⟨⟨⟨rfl, rfl, rfl, rfl, rfl, rfl, rfl, rfl, rfl, rfl, rfl, rfl⟩, rfl, rfl⟩, rfl⟩

set_option maxRecDepth 100000 in
set_option maxHeartbeats 1000000 in
/-- below -/
theorem f14 (hf : FX a bd bg ba bb alo blo n m ca cb c hi k x) (hw : WI w0 w bd bg ba bb bf bk va vb vr vad alo blo n m mc A B F G) (h1 : n ≤ 5000) (h2 : m ≤ 5000) (h3 : mc ≤ 9000) (h4 : c ≤ mc) (h5 : -20000 ≤ k) (h6 : k ≤ 20000) (hv : -1 ≤ atv F n m mc 0 (k - 1) ((c : Int) - 1) ∧ atv F n m mc 0 (k - 1) ((c : Int) - 1) ≤ n)
    (hQ : ∀ a' w', FX a' bd bg ba bb alo blo n m ca cb c hi k (if atv F n m mc 0 (k - 1) ((c : Int) - 1) ≠ -1 ∧ atv F n m mc 0 (k - 1) ((c : Int) - 1) < n then atv F n m mc 0 (k - 1) ((c : Int) - 1) + 1 else x) → WI w0 w' bd bg ba bb bf bk va vb vr vad alo blo n m mc A B F G → Q .normal a' w') :
    Code.wp Try.prog (nav [1, 1, 1, 1, 0, 1, 0, 0, 1, 0, 0, 1, 0, 1, 0, 0, 1, 0, 0, 1, 1, 0] (Try.f36.body.getD .skip)) Q a w := by
  have ne := ext_nonempty w
  have g0 := fun y => wext_cell w y hw.g.g0
  have g1 := fun y => wext_cell w y hw.g.g1
  have g2 := fun y => wext_cell w y hw.g.g2
  have c4 := fun y => wext_cell w y hw.d.c4
  obtain ⟨v, ev⟩ : ∃ v, v = atv F n m mc 0 (k - 1) ((c : Int) - 1) := ⟨_, rfl⟩
  have hcall : Hid (∀ y, Calls Try.prog 40 #[.agg #[.int .i64 n, .int .i64 m, .int .i64 mc], .slice (some ⟨bf, 0, none⟩) (2 * mc + 3) (2 * mc + 3), .int .i64 0, .int .i64 (k - 1), .int .i64 ((c : Int) - 1)] (wext w y) fun e w' => e = .returned (.int .i64 v) ∧ Below (wext w y).heap.size (wext w y) w') := fun y => by
    rw [ev]
    exact at_any n m mc 0 (k - 1) _ bf F _ (by omega) (by omega) (by omega) (by omega) (by omega) (by omega) (by omega) (by omega) (by omega) ((kept_below (wext_below w y)).row hw.t.f id)
  have HW : Hid (WI w0 w bd bg ba bb bf bk va vb vr vad alo blo n m mc A B F G) := hw
  rw [← ev] at hQ hv
  clear ev hw
  obtain ⟨hv1, hv2⟩ := hv
  refine lit344 (p := fun a => FX a bd bg ba bb alo blo n m ca cb c hi k x → Code.wp Try.prog (nav [1, 1, 1, 1, 0, 1, 0, 0, 1, 0, 0, 1, 0, 1, 0, 0, 1, 0, 0, 1, 1, 0] (Try.f36.body.getD .skip)) Q a w) ?_ a hf.sz hf.df hf
  clear hf
  intro u0 u1 _ u3 _ _ _ _ _ _ _ _ u12 u13 u14 u15 u16 u17 u18 _ u20 u21 u22 _ _ _ _ _ _ _ _ _ _ _ _ _ _ _ _ _ _ _ _ _ _ _ _ _ _ _ _ _ _ _ _ _ _ _ _ _ _ _ _ _ _ _ _ _ _ _ _ _ _ _ _ _ _ _ _ _ _ _ _ _ _ _ _ _ _ _ _ _ _ _ _ _ _ _ _ _ _ _ _ _ _ _ _ _ _ _ _ _ _ _ _ _ _ _ _ _ _ _ _ _ _ _ _ _ _ _ _ _ _ _ _ _ _ _ _ _ _ _ _ _ _ _ _ _ _ _ _ _ _ _ _ _ _ _ _ _ _ _ _ _ _ _ _ _ _ _ _ _ _ _ _ _ _ _ _ _ _ _ _ _ _ _ _ _ _ _ _ _ _ _ _ _ _ _ _ _ _ _ _ _ _ _ _ _ _ _ _ _ _ _ _ _ _ _ _ _ _ _ _ _ _ _ _ _ _ _ _ _ _ _ _ _ _ _ _ _ _ _ _ _ _ _ _ _ _ _ _ _ _ _ _ _ _ _ _ _ _ _ _ _ _ _ _ _ _ _ _ _ _ _ _ _ _ _ _ _ _ _ _ _ _ _ _ _ _ _ _ _ _ _ _ _ _ _ _ _ _ _ _ _ _ _ _ _ _ _ _ _ _ _ _ _ _ _ _ _ _ _ _ _ _ _ _ _ _ _ _ _ _ _ _ _ _ _ _ _ _ _ _ _ hf
  have e0 := hf.t0
  have e1 := hf.t1
  have e3 := hf.t3
  have e12 := hf.t12
  have e13 := hf.t13
  have e14 := hf.t14
  have e15 := hf.t15
  have e16 := hf.t16
  have e17 := hf.t17
  have e18 := hf.t18
  have e20 := hf.t20
  have e21 := hf.t21
  have e22 := hf.t22
  clear hf
  change u0 = _ at e0; change u1 = _ at e1; change u3 = _ at e3; change u12 = _ at e12; change u13 = _ at e13; change u14 = _ at e14; change u15 = _ at e15; change u16 = _ at e16; change u17 = _ at e17; change u18 = _ at e18; change u20 = _ at e20; change u21 = _ at e21; change u22 = _ at e22
  subst e0 e1 e3 e12 e13 e14 e15 e16 e17 e18 e20 e21 e22
  conv => arg 2; whnf
  go_wp2_with fail
  refine wp_region_ext (by kernel_rfl) (by kernel_rfl) ?_
  repeat (go_big_quiet_step ((go_at_call 40; exact Calls.ext (hcall.out _))))
  refine wpQuiet_nil ?_
  clear hcall g0 g1 g2 c4 ne
  intro w1 hb1
  have HW1 : Hid (WI w0 w1 bd bg ba bb bf bk va vb vr vad alo blo n m mc A B F G) := HW.out.below hb1
  clear HW hb1
  by_cases b1 : v = -1
  · subst b1
    rw [if_neg (by omega)] at hQ
    go_wp2
    exact hQ _ _ ⟨⟨⟨rfl, rfl, rfl, rfl, rfl, rfl, rfl, rfl, rfl, rfl, rfl, rfl⟩, rfl, rfl⟩, rfl⟩ HW1.out
  · by_cases b2 : v < n
    · rw [if_pos ⟨b1, b2⟩] at hQ
      go_wp2
      exact hQ _ _ ⟨⟨⟨rfl, rfl, rfl, rfl, rfl, rfl, rfl, rfl, rfl, rfl, rfl, rfl⟩, rfl, rfl⟩, rfl⟩ HW1.out
    · rw [if_neg (by omega)] at hQ
      go_wp2
      exact hQ _ _ ⟨⟨⟨rfl, rfl, rfl, rfl, rfl, rfl, rfl, rfl, rfl, rfl, rfl, rfl⟩, rfl, rfl⟩, rfl⟩ HW1.out

set_option maxRecDepth 100000 in
set_option maxHeartbeats 1000000 in
/-- above -/
theorem f17 (hf : FX a bd bg ba bb alo blo n m ca cb c hi k x) (hw : WI w0 w bd bg ba bb bf bk va vb vr vad alo blo n m mc A B F G) (h1 : n ≤ 5000) (h2 : m ≤ 5000) (h3 : mc ≤ 9000) (h4 : c ≤ mc) (h5 : -20000 ≤ k) (h6 : k ≤ 20000) (hx : -1 ≤ x ∧ x ≤ n) (hv : -1 ≤ atv F n m mc 0 (k + 1) ((c : Int) - 1) ∧ atv F n m mc 0 (k + 1) ((c : Int) - 1) ≤ n)
    (hQ : ∀ a' w', FX a' bd bg ba bb alo blo n m ca cb c hi k (if atv F n m mc 0 (k + 1) ((c : Int) - 1) ≠ -1 ∧ atv F n m mc 0 (k + 1) ((c : Int) - 1) - k ≤ m ∧ x < atv F n m mc 0 (k + 1) ((c : Int) - 1) then atv F n m mc 0 (k + 1) ((c : Int) - 1) else x) → WI w0 w' bd bg ba bb bf bk va vb vr vad alo blo n m mc A B F G → Q .normal a' w') :
    Code.wp Try.prog (nav [1, 1, 1, 1, 0, 1, 0, 0, 1, 0, 0, 1, 0, 1, 0, 0, 1, 0, 0, 1, 1, 1, 0] (Try.f36.body.getD .skip)) Q a w := by
  have ne := ext_nonempty w
  have g0 := fun y => wext_cell w y hw.g.g0
  have g1 := fun y => wext_cell w y hw.g.g1
  have g2 := fun y => wext_cell w y hw.g.g2
  have c4 := fun y => wext_cell w y hw.d.c4
  obtain ⟨v, ev⟩ : ∃ v, v = atv F n m mc 0 (k + 1) ((c : Int) - 1) := ⟨_, rfl⟩
  have hcall : Hid (∀ y, Calls Try.prog 40 #[.agg #[.int .i64 n, .int .i64 m, .int .i64 mc], .slice (some ⟨bf, 0, none⟩) (2 * mc + 3) (2 * mc + 3), .int .i64 0, .int .i64 (k + 1), .int .i64 ((c : Int) - 1)] (wext w y) fun e w' => e = .returned (.int .i64 v) ∧ Below (wext w y).heap.size (wext w y) w') := fun y => by
    rw [ev]
    exact at_any n m mc 0 (k + 1) _ bf F _ (by omega) (by omega) (by omega) (by omega) (by omega) (by omega) (by omega) (by omega) (by omega) ((kept_below (wext_below w y)).row hw.t.f id)
  have HW : Hid (WI w0 w bd bg ba bb bf bk va vb vr vad alo blo n m mc A B F G) := hw
  rw [← ev] at hQ hv
  clear ev hw
  obtain ⟨hv1, hv2⟩ := hv
  obtain ⟨hx1, hx2⟩ := hx
  refine lit344 (p := fun a => FX a bd bg ba bb alo blo n m ca cb c hi k x → Code.wp Try.prog (nav [1, 1, 1, 1, 0, 1, 0, 0, 1, 0, 0, 1, 0, 1, 0, 0, 1, 0, 0, 1, 1, 1, 0] (Try.f36.body.getD .skip)) Q a w) ?_ a hf.sz hf.df hf
  clear hf
  intro u0 u1 _ u3 _ _ _ _ _ _ _ _ u12 u13 u14 u15 u16 u17 u18 _ u20 u21 u22 _ _ _ _ _ _ _ _ _ _ _ _ _ _ _ _ _ _ _ _ _ _ _ _ _ _ _ _ _ _ _ _ _ _ _ _ _ _ _ _ _ _ _ _ _ _ _ _ _ _ _ _ _ _ _ _ _ _ _ _ _ _ _ _ _ _ _ _ _ _ _ _ _ _ _ _ _ _ _ _ _ _ _ _ _ _ _ _ _ _ _ _ _ _ _ _ _ _ _ _ _ _ _ _ _ _ _ _ _ _ _ _ _ _ _ _ _ _ _ _ _ _ _ _ _ _ _ _ _ _ _ _ _ _ _ _ _ _ _ _ _ _ _ _ _ _ _ _ _ _ _ _ _ _ _ _ _ _ _ _ _ _ _ _ _ _ _ _ _ _ _ _ _ _ _ _ _ _ _ _ _ _ _ _ _ _ _ _ _ _ _ _ _ _ _ _ _ _ _ _ _ _ _ _ _ _ _ _ _ _ _ _ _ _ _ _ _ _ _ _ _ _ _ _ _ _ _ _ _ _ _ _ _ _ _ _ _ _ _ _ _ _ _ _ _ _ _ _ _ _ _ _ _ _ _ _ _ _ _ _ _ _ _ _ _ _ _ _ _ _ _ _ _ _ _ _ _ _ _ _ _ _ _ _ _ _ _ _ _ _ _ _ _ _ _ _ _ _ _ _ _ _ _ _ _ _ _ _ _ _ _ _ _ _ _ _ _ _ _ _ _ hf
  have e0 := hf.t0
  have e1 := hf.t1
  have e3 := hf.t3
  have e12 := hf.t12
  have e13 := hf.t13
  have e14 := hf.t14
  have e15 := hf.t15
  have e16 := hf.t16
  have e17 := hf.t17
  have e18 := hf.t18
  have e20 := hf.t20
  have e21 := hf.t21
  have e22 := hf.t22
  clear hf
  change u0 = _ at e0; change u1 = _ at e1; change u3 = _ at e3; change u12 = _ at e12; change u13 = _ at e13; change u14 = _ at e14; change u15 = _ at e15; change u16 = _ at e16; change u17 = _ at e17; change u18 = _ at e18; change u20 = _ at e20; change u21 = _ at e21; change u22 = _ at e22
  subst e0 e1 e3 e12 e13 e14 e15 e16 e17 e18 e20 e21 e22
  conv => arg 2; whnf
  go_wp2_with fail
  refine wp_region_ext (by kernel_rfl) (by kernel_rfl) ?_
  repeat (go_big_quiet_step ((go_at_call 40; exact Calls.ext (hcall.out _))))
  refine wpQuiet_nil ?_
  clear hcall g0 g1 g2 c4 ne
  intro w1 hb1
  have HW1 : Hid (WI w0 w1 bd bg ba bb bf bk va vb vr vad alo blo n m mc A B F G) := HW.out.below hb1
  clear HW hb1
  by_cases b1 : v = -1
  · subst b1
    rw [if_neg (by omega)] at hQ
    go_wp2
    exact hQ _ _ ⟨⟨⟨rfl, rfl, rfl, rfl, rfl, rfl, rfl, rfl, rfl, rfl, rfl, rfl⟩, rfl, rfl⟩, rfl⟩ HW1.out
  · by_cases b2 : v - k ≤ m
    · by_cases b3 : x < v
      · rw [if_pos ⟨b1, b2, b3⟩] at hQ
        go_wp2
        exact hQ _ _ ⟨⟨⟨rfl, rfl, rfl, rfl, rfl, rfl, rfl, rfl, rfl, rfl, rfl, rfl⟩, rfl, rfl⟩, rfl⟩ HW1.out
      · rw [if_neg (by omega)] at hQ
        go_wp2
        exact hQ _ _ ⟨⟨⟨rfl, rfl, rfl, rfl, rfl, rfl, rfl, rfl, rfl, rfl, rfl, rfl⟩, rfl, rfl⟩, rfl⟩ HW1.out
    · rw [if_neg (by omega)] at hQ
      go_wp2
      exact hQ _ _ ⟨⟨⟨rfl, rfl, rfl, rfl, rfl, rfl, rfl, rfl, rfl, rfl, rfl, rfl⟩, rfl, rfl⟩, rfl⟩ HW1.out

set_option maxRecDepth 100000 in
set_option maxHeartbeats 1000000 in
/-- d.forward[g.index(0, k)] = x -/
theorem f23 (hf : FX a bd bg ba bb alo blo n m ca cb c hi k x) (hw : WI w0 w bd bg ba bb bf bk va vb vr vad alo blo n m mc A B F G) (h1 : n ≤ 5000) (h2 : m ≤ 5000) (h3 : mc ≤ 9000) (h4 : c ≤ mc) (h5 : -(c : Int) ≤ k) (h6 : k ≤ (c : Int))
    (hQ : ∀ a' w', FX a' bd bg ba bb alo blo n m ca cb c hi k x → WI w0 w' bd bg ba bb bf bk va vb vr vad alo blo n m mc A B (upd F (k + mc + 1).toNat x) G → Q .normal a' w') :
    Code.wp Try.prog (nav [1, 1, 1, 1, 0, 1, 0, 0, 1, 0, 0, 1, 0, 1, 0, 0, 1, 0, 0, 1, 1, 1, 1, 1, 0] (Try.f36.body.getD .skip)) Q a w := by
  obtain ⟨i, ei⟩ : ∃ i : Nat, i = (k + mc + 1).toNat := ⟨_, rfl⟩
  obtain ⟨T, eT⟩ : ∃ T : Nat, T = 2 * mc + 3 := ⟨_, rfl⟩
  have hcall : Hid (∀ w1, Calls Try.prog 41 #[.agg #[.int .i64 n, .int .i64 m, .int .i64 mc], .int .i64 0, .int .i64 k] w1 fun e w' => e = .returned (.int .i64 (i : Int)) ∧ Below w1.heap.size w1 w') := fun w1 => by
    rw [show (i : Int) = k - 0 + mc + 1 from by omega]
    exact index_any n m mc 0 k w1 (by omega) (by omega) (by omega) (by omega) (by omega) (by omega)
  have fin : Hid (∀ w1, Below w.heap.size w w1 → WI w0 (w1.setCell ⟨bf, i, none⟩ (.int .i64 x)) bd bg ba bb bf bk va vb vr vad alo blo n m mc A B (upd F i x) G) := fun w1 hb => (hw.below hb).setF i x
  rw [← ei] at hQ
  have g0 := hw.g.g0
  have g1 := hw.g.g1
  have g2 := hw.g.g2
  have c4 := hw.d.c4
  have hr : Hid (w.rowIs bf 3 T (fun i => .int .i64 (F i))) := eT ▸ hw.t.f
  have nd1 : bd ≠ bf := fun e => hw.nd (.inl e)
  have ng1 : bg ≠ bf := fun e => hw.ng (.inl e)
  rw [← eT] at c4
  have i1 : (0 : Int) ≤ (i : Int) := by omega
  have i2 : (i : Int) < (T : Int) := by omega
  have i3 : i < T := by omega
  clear hw eT ei
  refine lit344 (p := fun a => FX a bd bg ba bb alo blo n m ca cb c hi k x → Code.wp Try.prog (nav [1, 1, 1, 1, 0, 1, 0, 0, 1, 0, 0, 1, 0, 1, 0, 0, 1, 0, 0, 1, 1, 1, 1, 1, 0] (Try.f36.body.getD .skip)) Q a w) ?_ a hf.sz hf.df hf
  clear hf
  intro u0 u1 _ u3 _ _ _ _ _ _ _ _ u12 u13 u14 u15 u16 u17 u18 _ u20 u21 u22 _ _ _ _ _ _ _ _ _ _ _ _ _ _ _ _ _ _ _ _ _ _ _ _ _ _ _ _ _ _ _ _ _ _ _ _ _ _ _ _ _ _ _ _ _ _ _ _ _ _ _ _ _ _ _ _ _ _ _ _ _ _ _ _ _ _ _ _ _ _ _ _ _ _ _ _ _ _ _ _ _ _ _ _ _ _ _ _ _ _ _ _ _ _ _ _ _ _ _ _ _ _ _ _ _ _ _ _ _ _ _ _ _ _ _ _ _ _ _ _ _ _ _ _ _ _ _ _ _ _ _ _ _ _ _ _ _ _ _ _ _ _ _ _ _ _ _ _ _ _ _ _ _ _ _ _ _ _ _ _ _ _ _ _ _ _ _ _ _ _ _ _ _ _ _ _ _ _ _ _ _ _ _ _ _ _ _ _ _ _ _ _ _ _ _ _ _ _ _ _ _ _ _ _ _ _ _ _ _ _ _ _ _ _ _ _ _ _ _ _ _ _ _ _ _ _ _ _ _ _ _ _ _ _ _ _ _ _ _ _ _ _ _ _ _ _ _ _ _ _ _ _ _ _ _ _ _ _ _ _ _ _ _ _ _ _ _ _ _ _ _ _ _ _ _ _ _ _ _ _ _ _ _ _ _ _ _ _ _ _ _ _ _ _ _ _ _ _ _ _ _ _ _ _ _ _ _ _ _ _ _ _ _ _ _ _ _ _ _ _ _ hf
  have e0 := hf.t0
  have e1 := hf.t1
  have e3 := hf.t3
  have e12 := hf.t12
  have e13 := hf.t13
  have e14 := hf.t14
  have e15 := hf.t15
  have e16 := hf.t16
  have e17 := hf.t17
  have e18 := hf.t18
  have e20 := hf.t20
  have e21 := hf.t21
  have e22 := hf.t22
  clear hf
  change u0 = _ at e0; change u1 = _ at e1; change u3 = _ at e3; change u12 = _ at e12; change u13 = _ at e13; change u14 = _ at e14; change u15 = _ at e15; change u16 = _ at e16; change u17 = _ at e17; change u18 = _ at e18; change u20 = _ at e20; change u21 = _ at e21; change u22 = _ at e22
  subst e0 e1 e3 e12 e13 e14 e15 e16 e17 e18 e20 e21 e22
  conv => arg 2; whnf
  go_wp2_with fail
  go_region_held3 (fun w' => w'.cell? ⟨bd, 4, none⟩ = some (.slice (some ⟨bf, 0, none⟩) T T) ∧ w'.cell? ⟨bg, 0, none⟩ = some (.int .i64 n) ∧ w'.cell? ⟨bg, 1, none⟩ = some (.int .i64 m) ∧ w'.cell? ⟨bg, 2, none⟩ = some (.int .i64 mc)) (first | go_keep | exact ⟨cell_set_other (by assumption) nd1, cell_set_other (by assumption) ng1, cell_set_other (by assumption) ng1, cell_set_other (by assumption) ng1⟩)
    ((go_at_call 41; refine (hcall.out _).mono ?_; rintro e w1 ⟨rfl, hb1⟩; have k4 := cell_later hb1 c4; have k0 := cell_later hb1 g0; have k1 := cell_later hb1 g1; have k2 := cell_later hb1 g2; have kr := (kept_below hb1).row (show w.drew.rowIs _ _ _ _ from hr.out) id; have kc := kr.cell i3; have kz := kr.frozen i))
  exact hQ _ _ ⟨⟨⟨rfl, rfl, rfl, rfl, rfl, rfl, rfl, rfl, rfl, rfl, rfl, rfl⟩, rfl, rfl⟩, rfl⟩ (fin.out _ (below_undrew (by assumption)))

end
end Go.Proofs.Qxb6600330a
