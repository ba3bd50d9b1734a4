import Derived.Test.Qxb6600330aFrame
import Derived.WalkSmall
namespace Go.Proofs.Qxb6600330a
open Go.RowKit
set_option linter.unusedVariables false

section
variable {Q : Exit → Act → World → Prop} {a : Act} {w0 w : World} {bd bg ba bb bf bk : Nat} {va vb vr vad : Value} {alo blo n m ca cb c mc : Nat} {A B F G : Nat → Int} {hi k x : Int}
set_option maxRecDepth 100000 in
set_option maxHeartbeats 1000000 in
/-- no walk along the diagonal -/
theorem f20_no (hf : FX a bd bg ba bb alo blo n m ca cb c hi k (-1)) (hQ : ∀ a', FX a' bd bg ba bb alo blo n m ca cb c hi k (-1) → Q .normal a' w) :
    Code.wp Try.prog (nav [1, 1, 1, 1, 0, 1, 0, 0, 1, 0, 0, 1, 0, 1, 0, 0, 1, 0, 0, 1, 1, 1, 1, 0] (Try.f36.body.getD .skip)) Q a w := by
  refine lit344 (p := fun a => FX a bd bg ba bb alo blo n m ca cb c hi k (-1) → Code.wp Try.prog (nav [1, 1, 1, 1, 0, 1, 0, 0, 1, 0, 0, 1, 0, 1, 0, 0, 1, 0, 0, 1, 1, 1, 1, 0] (Try.f36.body.getD .skip)) Q a w) ?_ a hf.sz hf.df hf
  clear hf
  intro u0 u1 _ u3 _ _ _ _ _ _ _ _ u12 u13 u14 u15 u16 u17 u18 _ u20 u21 u22 _ _ _ _ _ _ _ _ _ _ _ _ _ _ _ _ _ _ _ _ _ _ _ _ _ _ _ _ _ _ _ _ _ _ _ _ _ _ _ _ _ _ _ _ _ _ _ _ _ _ _ _ _ _ _ _ _ _ _ _ _ _ _ _ _ _ _ _ _ _ _ _ _ _ _ _ _ _ _ _ _ _ _ _ _ _ _ _ _ _ _ _ _ _ _ _ _ _ _ _ _ _ _ _ _ _ _ _ _ _ _ _ _ _ _ _ _ _ _ _ _ _ _ _ _ _ _ _ _ _ _ _ _ _ _ _ _ _ _ _ _ _ _ _ _ _ _ _ _ _ _ _ _ _ _ _ _ _ _ _ _ _ _ _ _ _ _ _ _ _ _ _ _ _ _ _ _ _ _ _ _ _ _ _ _ _ _ _ _ _ _ _ _ _ _ _ _ _ _ _ _ _ _ _ _ _ _ _ _ _ _ _ _ _ _ _ _ _ _ _ _ _ _ _ _ _ _ _ _ _ _ _ _ _ _ _ _ _ _ _ _ _ _ _ _ _ _ _ _ _ _ _ _ _ _ _ _ _ _ _ _ _ _ _ _ _ _ _ _ _ _ _ _ _ _ _ _ _ _ _ _ _ _ _ _ _ _ _ _ _ _ _ _ _ _ _ _ _ _ _ _ _ _ _ _ _ _ _ _ _ _ _ _ _ _ _ _ _ _ _ _ hf
  have e0 := hf.t0
  have e1 := hf.t1
  have e3 := hf.t3
  have e12 := hf.t12
  have e13 := hf.t13
  have e14 := hf.t14
  have e15 := hf.t15
  have e16 := hf.t16
  have e17 := hf.t17
  have e18 := hf.t18
  have e20 := hf.t20
  have e21 := hf.t21
  have e22 := hf.t22
  clear hf
  change u0 = _ at e0; change u1 = _ at e1; change u3 = _ at e3; change u12 = _ at e12; change u13 = _ at e13; change u14 = _ at e14; change u15 = _ at e15; change u16 = _ at e16; change u17 = _ at e17; change u18 = _ at e18; change u20 = _ at e20; change u21 = _ at e21; change u22 = _ at e22
  subst e0 e1 e3 e12 e13 e14 e15 e16 e17 e18 e20 e21 e22
  conv => arg 2; whnf
  go_wp2
  exact ⟨⟨⟨rfl, rfl, rfl, rfl, rfl, rfl, rfl, rfl, rfl, rfl, rfl, rfl⟩, rfl, rfl⟩, rfl⟩

set_option maxRecDepth 100000 in
set_option maxHeartbeats 1000000 in
/-- the walk along the diagonal -/
theorem f20 (X Y : Nat) (hf : FX a bd bg ba bb alo blo n m ca cb c hi k (X : Int)) (hw : WI w0 w bd bg ba bb bf bk va vb vr vad alo blo n m mc A B F G) (h1 : n ≤ 5000) (h2 : m ≤ 5000) (h3 : mc ≤ 9000) (h4 : c ≤ mc) (h5 : -20000 ≤ k) (h6 : k ≤ 20000) (hk : (X : Int) - Y = k) (hX : X ≤ n) (hY : Y ≤ m) (hca : n ≤ ca) (hcb : m ≤ cb)
    (hQ : ∀ a' w' x', FX a' bd bg ba bb alo blo n m ca cb c hi k x' → Plain.Slid (tab A B) n m k X x' → WI w0 w' bd bg ba bb bf bk va vb vr vad alo blo n m mc A B F G → Q .normal a' w') :
    Code.wp Try.prog (nav [1, 1, 1, 1, 0, 1, 0, 0, 1, 0, 0, 1, 0, 1, 0, 0, 1, 0, 0, 1, 1, 1, 1, 0] (Try.f36.body.getD .skip)) Q a w := by
  have ra := hw.a
  have rb := hw.b
  have HW : Hid (WI w0 w bd bg ba bb bf bk va vb vr vad alo blo n m mc A B F G) := hw
  have HK : Hid ((X : Int) - Y = k) := hk
  clear hw hk
  refine lit344 (p := fun a => FX a bd bg ba bb alo blo n m ca cb c hi k (X : Int) → Code.wp Try.prog (nav [1, 1, 1, 1, 0, 1, 0, 0, 1, 0, 0, 1, 0, 1, 0, 0, 1, 0, 0, 1, 1, 1, 1, 0] (Try.f36.body.getD .skip)) Q a w) ?_ a hf.sz hf.df hf
  clear hf
  intro u0 u1 _ u3 _ _ _ _ _ _ _ _ u12 u13 u14 u15 u16 u17 u18 _ u20 u21 u22 _ _ _ _ _ _ _ _ _ _ _ _ _ _ _ _ _ _ _ _ _ _ _ _ _ _ _ _ _ _ _ _ _ _ _ _ _ _ _ _ _ _ _ _ _ _ _ _ _ _ _ _ _ _ _ _ _ _ _ _ _ _ _ _ _ _ _ _ _ _ _ _ _ _ _ _ _ _ _ _ _ _ _ _ _ _ _ _ _ _ _ _ _ _ _ _ _ _ _ _ _ _ _ _ _ _ _ _ _ _ _ _ _ _ _ _ _ _ _ _ _ _ _ _ _ _ _ _ _ _ _ _ _ _ _ _ _ _ _ _ _ _ _ _ _ _ _ _ _ _ _ _ _ _ _ _ _ _ _ _ _ _ _ _ _ _ _ _ _ _ _ _ _ _ _ _ _ _ _ _ _ _ _ _ _ _ _ _ _ _ _ _ _ _ _ _ _ _ _ _ _ _ _ _ _ _ _ _ _ _ _ _ _ _ _ _ _ _ _ _ _ _ _ _ _ _ _ _ _ _ _ _ _ _ _ _ _ _ _ _ _ _ _ _ _ _ _ _ _ _ _ _ _ _ _ _ _ _ _ _ _ _ _ _ _ _ _ _ _ _ _ _ _ _ _ _ _ _ _ _ _ _ _ _ _ _ _ _ _ _ _ _ _ _ _ _ _ _ _ _ _ _ _ _ _ _ _ _ _ _ _ _ _ _ _ _ _ _ _ _ _ hf
  have e0 := hf.t0
  have e1 := hf.t1
  have e3 := hf.t3
  have e12 := hf.t12
  have e13 := hf.t13
  have e14 := hf.t14
  have e15 := hf.t15
  have e16 := hf.t16
  have e17 := hf.t17
  have e18 := hf.t18
  have e20 := hf.t20
  have e21 := hf.t21
  have e22 := hf.t22
  clear hf
  change u0 = _ at e0; change u1 = _ at e1; change u3 = _ at e3; change u12 = _ at e12; change u13 = _ at e13; change u14 = _ at e14; change u15 = _ at e15; change u16 = _ at e16; change u17 = _ at e17; change u18 = _ at e18; change u20 = _ at e20; change u21 = _ at e21; change u22 = _ at e22
  subst e0 e1 e3 e12 e13 e14 e15 e16 e17 e18 e20 e21 e22
  conv => arg 2; whnf
  have hx1 : (0 : Int) ≤ (X : Int) := by omega
  go_wp2_with fail
  go_loopw [22] (fun v wr => ∃ t : Nat, X + t ≤ n ∧ Y + t ≤ m ∧ v = .int .i64 ((X : Int) + t) ∧ (∀ u, u < t → A (X + u) = B (Y + u)) ∧ Below w.heap.size w wr) (fun v wr => n - (intOf v).toNat)
  case atStart => exact ⟨0, by omega, by omega, by simp, fun u hu => absurd hu (by omega), Below.refl _ _⟩
  case round =>
    obtain ⟨t, ht1, ht2, rfl, hall, hbw⟩ := hrel
    have HA : Hid (∀ u, u < t → A (X + u) = B (Y + u)) := hall
    have HB : Hid (Below w.heap.size w wr) := hbw
    clear hall hbw
    by_cases q1 : (X : Int) + t < n
    · by_cases q2 : (X : Int) + t - k < m
      · have q3 : 0 ≤ (X : Int) + t - k := by have := HK.out; omega
        have ca1 : wr.cell? ⟨ba, alo + (X + t), none⟩ = some (.int .i64 (A (X + t))) := cell_later HB.out (ra _ (by omega))
        have cb1 : wr.cell? ⟨bb, blo + ((X : Int) + t - k).toNat, none⟩ = some (.int .i64 (B (Y + t))) := by
          have := rb (Y + t) (by have := HK.out; omega)
          rw [show ((X : Int) + t - k).toNat = Y + t from by have := HK.out; omega]
          exact cell_later HB.out this
        go_wp2
        go_quiet (fail)
        go_wp2
        · have e : A (X + t) = B (Y + t) := eq_of_beq (by assumption)
          go_roundw
          case rel => exact ⟨t + 1, by omega, by have := HK.out; omega, by go_num, fun u hu => by
            by_cases hut : u < t
            · exact HA.out u hut
            · obtain rfl : u = t := by omega
              exact e, below_drewN HB.out _⟩
          case measure => simp [intOf]; omega
        · have e : ¬ A (X + t) = B (Y + t) := ne_of_beq_false (by assumption)
          have hb2 : Below w.heap.size w (wr.drewN nq) := below_drewN HB.out _
          exact hQ _ _ _ ⟨⟨⟨rfl, rfl, rfl, rfl, rfl, rfl, rfl, rfl, rfl, rfl, rfl, rfl⟩, rfl, rfl⟩, rfl⟩ ⟨X, Y, t, rfl, HK.out, by omega, ht1, ht2, fun u hu => tab_true.2 (HA.out u hu), fun h => e (tab_true.1 h.2.2)⟩ (HW.out.below hb2)
      · have q2' : decide ((X : Int) + t - k < m) = false := by simpa using q2
        go_wp2_with fail
        go_quiet (fail)
        go_wp2
        have hb2 : Below w.heap.size w (wr.drewN nq) := below_drewN HB.out _
        exact hQ _ _ _ ⟨⟨⟨rfl, rfl, rfl, rfl, rfl, rfl, rfl, rfl, rfl, rfl, rfl, rfl⟩, rfl, rfl⟩, rfl⟩ ⟨X, Y, t, rfl, HK.out, by omega, ht1, ht2, fun u hu => tab_true.2 (HA.out u hu), fun h => by have := HK.out; omega⟩ (HW.out.below hb2)
    · have q1' : decide ((X : Int) + t < n) = false := by simpa using q1
      go_wp2_with fail
      go_quiet (fail)
      go_wp2
      have hb2 : Below w.heap.size w (wr.drewN nq) := below_drewN HB.out _
      exact hQ _ _ _ ⟨⟨⟨rfl, rfl, rfl, rfl, rfl, rfl, rfl, rfl, rfl, rfl, rfl, rfl⟩, rfl, rfl⟩, rfl⟩ ⟨X, Y, t, rfl, HK.out, by omega, ht1, ht2, fun u hu => tab_true.2 (HA.out u hu), fun h => by omega⟩ (HW.out.below hb2)
end
end Go.Proofs.Qxb6600330a
