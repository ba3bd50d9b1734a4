import Derived.Test.Qxb6600330aRows
import Derived.Test.Qxb6600330aZzSplit
import Derived.Test.Qxb6600330aSmall
import Derived.Test.Qxb6600330aSmall2
import Derived.WalkKit
import Derived.ProofKit
import Derived.OpenShut
import Derived.ShutString
import Derived.ChangeOld
import Derived.Below
namespace Go.Proofs.Qxb6600330a.fnSplitStepsStrictlyInsideAtAnyCost
open Go.ChangeShapes Go.WideShapes Go.ChangeAt Go.RowKit
open Go.ChangeMaps (open_string shut_string)
set_option linter.unusedVariables false

theorem own : ownKnob Try.prog.godebug = none := by kernel_rfl
theorem laidOut : laidOutB Try.prog = true := by kernel_rfl

/-- WHAT THE WALK IS TOLD OF A SLICE OF INTEGERS THAT CAME IN: it is nil; or it leads to a row of 'cap' cells, the numbers 'zs' (the first 'len' are its elements, the rest its spare room), each fitting its kind. -/
def IsRow (k : IntKind) (w : World) (a : Option Addr) (len cap : Nat) (zs : List Int) : Prop :=
  (a = none ∧ len = 0 ∧ cap = 0 ∧ zs = []) ∨
  ∃ x, a = some x ∧ len ≤ cap ∧ cap ≤ maxLen ∧ zs.length = cap ∧ (∀ i, i < zs.length → w.cell? (x.add i) = some (.int k (zs.getD i 0))) ∧ ∀ n ∈ zs, (Lit.int k n).wf = true

/-- What a row says of its cells. -/
theorem IsRow.some {w : World} {x : Addr} {len cap : Nat} {zs : List Int} (h : IsRow .i64 w (some x) len cap zs) :
    (∀ i, i < len → w.cell? ⟨x.block, x.off + i, none⟩ = some (.int .i64 (zs.getD i 0))) ∧ (0 < len → x.spot = none) := by
  rcases h with ⟨h, _⟩ | ⟨y, hy, hl, _, hz, hc, _⟩
  · cases h
  · obtain rfl : x = y := by cases hy; rfl
    have sp : 0 < len → x.spot = none := by
      intro h0
      have := hc 0 (by omega)
      unfold World.cell? at this
      by_cases e : x.spot = none
      · exact e
      · exfalso
        have e' : (x.add 0).spot.isSome = true := by
          show x.spot.isSome = true
          cases hx : x.spot with
          | none => exact absurd hx e
          | some _ => rfl
        rw [e'] at this
        simp at this
        split at this <;> simp at this
    refine ⟨fun i hi => ?_, sp⟩
    have := hc i (by omega)
    obtain ⟨b, o, s⟩ := x
    obtain rfl : s = none := sp (by omega)
    rw [Addr.add_lit] at this
    exact this
theorem IsRow.none {w : World} {len cap : Nat} {zs : List Int} (h : IsRow .i64 w none len cap zs) : len = 0 ∧ cap = 0 := by
  rcases h with ⟨_, h1, h2, _⟩ | ⟨y, hy, _⟩
  · exact ⟨h1, h2⟩
  · cases hy

theorem whole (ba bb N M mc : Nat) (A B : Nat → Int) (w : World) (hN : N ≤ 4096) (hM : M ≤ 4096) (hmc : 1 ≤ mc) (hmc' : mc ≤ 8500) (ha : 0 < N) (hb : 0 < M)
    (hra : IntRow w ba 0 N A) (hrb : IntRow w bb 0 M B) (h0 : ¬ A 0 = B 0) (h1 : ¬ A (N - 1) = B (M - 1)) :
    Calls Try.prog 21 #[.slice (some ⟨ba, 0, none⟩) N N, .slice (some ⟨bb, 0, none⟩) M M, .int .i64 mc, .int .i64 0, .int .i64 N, .int .i64 0, .int .i64 M] w fun e w' => ∃ X Y : Nat, e = .returned (.tuple #[.int .i64 (X : Int), .int .i64 (Y : Int)]) ∧
      Plain.Inside (tab A B) N M mc X Y ∧ Below w.heap.size w w' := by
  have e1 : (fun i => A (0 + i)) = A := funext fun i => by rw [Nat.zero_add]
  have e2 : (fun i => B (0 + i)) = B := funext fun i => by rw [Nat.zero_add]
  have h := zzsplit_any ba bb N M mc 0 N 0 M A B w hN hM hmc hmc' ha (Nat.le_refl _) hb (Nat.le_refl _) hra hrb (by
    rw [e1, e2]
    exact Plain.fewest_two (by omega) (by omega) (by rw [tab_true]; exact h0) (by rw [tab_true]; exact h1))
  rw [e1, e2] at h
  refine h.mono ?_
  rintro e w' ⟨X, Y, rfl, hin, hbl⟩
  exact ⟨X, Y, by rw [Nat.zero_add, Nat.zero_add], hin, hbl⟩

set_option maxHeartbeats 1000000 in
/-- The main way. -/
theorem walk_main (x0 : Addr) (len0 cap0 : Nat) (Z0 : Nat → Int) (x1 : Addr) (len1 cap1 : Nat) (Z1 : Nat → Int) (mc : Nat) (w : World) (hc0 : ∀ i, i < len0 → w.cell? ⟨x0.block, x0.off + i, Option.none⟩ = Option.some (.int .i64 (Z0 i))) (hs0 : 0 < len0 → x0.spot = Option.none)
    (hc1 : ∀ i, i < len1 → w.cell? ⟨x1.block, x1.off + i, Option.none⟩ = Option.some (.int .i64 (Z1 i))) (hs1 : 0 < len1 → x1.spot = Option.none) (h0 : 1 ≤ len0) (h1 : 1 ≤ len1) (hl0 : len0 ≤ 4096) (hl1 : len1 ≤ 4096) (hm1 : 1 ≤ mc) (hm2 : mc ≤ 8192) :
    Calls Try.prog 7 #[.slice (Option.some x0) len0 cap0, .slice (Option.some x1) len1 cap1, .int .i64 (mc : Int)] w fun e w' => e = .returned (.bool true) ∧ Below w.heap.size w w' := by
  obtain ⟨b0, o0, s0⟩ := x0
  obtain ⟨b1, o1, s1⟩ := x1
  obtain rfl : s0 = Option.none := hs0 (by omega)
  obtain rfl : s1 = Option.none := hs1 (by omega)
  have C1 : Hid (IntRow w b0 o0 len0 Z0 ∧ IntRow w b1 o1 len1 Z1) := ⟨hc0, hc1⟩
  clear hc0 hc1 hs0 hs1
  have g0 : (len0 : Int) ≤ 4096 := by omega
  have g1 : (len1 : Int) ≤ 4096 := by omega
  have g2 : (1 : Int) ≤ (mc : Int) := by omega
  have g3 : (mc : Int) ≤ 8192 := by omega
  go_enter Try.func7, Try.ntmps7
  go_wp2_with fail
  refine (bytes23 _ _ _ _ _ _ _ _).mono ?_
  rintro e w' ⟨b, rfl, rfl, hb⟩
  obtain rfl : b = true := hb hl0 hl1
  clear hb
  go_wp2_with fail
  refine (premise_any b0 o0 b1 o1 len0 cap0 len1 cap1 Z0 Z1 _ h0 h1 hl0 hl1 C1.out.1 C1.out.2).mono ?_
  rintro e w1 ⟨b, rfl, hb, hw1⟩
  cases b with
  | false =>
    go_wp2_with fail
    go_ret
    exact ⟨rfl, hw1⟩
  | true =>
    have HP : Hid (¬ Z0 0 = Z1 0 ∧ ¬ Z0 (len0 - 1) = Z1 (len1 - 1)) := hb.1 rfl
    clear hb
    have k1 := kept_below hw1
    go_wp2_with fail
    refine (clone_any ⟨b0, o0, Option.none⟩ len0 cap0 Z0 _ hl0 (C1.out.1.kept k1 id) (fun _ => rfl)).mono ?_
    rintro e w2 ⟨ca, rfl, ra, ga, hw2⟩
    have k2 := kept_below hw2
    go_wp2_with fail
    refine (clone_any ⟨b1, o1, Option.none⟩ len1 cap1 Z1 _ hl1 ((C1.out.2.kept k1 id).kept k2 id) (fun _ => rfl)).mono ?_
    rintro e w3 ⟨cb, rfl, rb, gb, hw3⟩
    have k3 := kept_below hw3
    go_wp2_with fail
    refine (whole ca cb len0 len1 mc Z0 Z1 _ hl0 hl1 hm1 (by omega) (by omega) (by omega) (fun i hi => by rw [Nat.zero_add]; exact (k3.row ra id).cell hi) (fun i hi => by rw [Nat.zero_add]; exact rb.cell hi) HP.out.1 HP.out.2).mono ?_
    rintro e w4 ⟨X, Y, rfl, hin, hw4⟩
    go_wp2_with fail
    refine (inside_any X Y len0 len1 _ hin.1 hin.2.1 hin.2.2.1 hin.2.2.2.1).mono ?_
    rintro e w5 ⟨rfl, rfl⟩
    go_wp2_with fail
    go_ret
    exact ⟨rfl, ((hw1.trans (hw2.mono hw1.size)).trans (hw3.mono (Nat.le_trans hw1.size hw2.size))).trans (hw4.mono (Nat.le_trans hw1.size (Nat.le_trans hw2.size hw3.size)))⟩

set_option maxHeartbeats 1000000 in
/-- Where the law's own tests say: nothing is asked. -/
theorem walk_idle (a0 : Option Addr) (len0 cap0 : Nat) (a1 : Option Addr) (len1 cap1 : Nat) (a2 : Int) (w : World) (h : 4096 < len0 ∨ 4096 < len1 ∨ a2 < 1 ∨ 8192 < a2 ∨ len0 = 0 ∨ len1 = 0) :
    Calls Try.prog 7 #[.slice a0 len0 cap0, .slice a1 len1 cap1, .int .i64 a2] w fun e w' => e = .returned (.bool true) ∧ Below w.heap.size w w' := by
  have H : Hid (4096 < len0 ∨ 4096 < len1 ∨ a2 < 1 ∨ 8192 < a2 ∨ len0 = 0 ∨ len1 = 0) := h
  clear h
  go_enter Try.func7, Try.ntmps7
  go_wp2_with fail
  refine (bytes23 _ _ _ _ _ _ _ _).mono ?_
  rintro e w' ⟨b, rfl, rfl, hb⟩
  clear hb
  cases b with
  | false =>
    go_wp2_with fail
    go_ret
    exact ⟨rfl, Below.refl _ _⟩
  | true =>
    by_cases q1 : (4096 : Int) < len0
    · go_wp2_with fail
      go_ret
      exact ⟨rfl, Below.refl _ _⟩
    · by_cases q2 : (4096 : Int) < len1
      · go_wp2_with fail
        go_ret
        exact ⟨rfl, Below.refl _ _⟩
      · by_cases q3 : a2 < 1
        · go_wp2_with fail
          go_ret
          exact ⟨rfl, Below.refl _ _⟩
        · by_cases q4 : 8192 < a2
          · go_wp2_with fail
            go_ret
            exact ⟨rfl, Below.refl _ _⟩
          · go_wp2_with fail
            refine (premise_short _ _ _ _ _ _ _ (by have := H.out; omega)).mono ?_
            rintro e w1 ⟨rfl, rfl⟩
            go_wp2_with fail
            go_ret
            exact ⟨rfl, Below.refl _ _⟩

theorem walk (a0 : Option Addr) (len0 cap0 : Nat) (z0 : List Int) (a1 : Option Addr) (len1 cap1 : Nat) (z1 : List Int) (a2 : Int) (w : World) (w0 : IsRow .i64 w a0 len0 cap0 z0) (w1 : IsRow .i64 w a1 len1 cap1 z1) (w2 : (Lit.int .i64 a2).wf = true) :
    Calls Try.prog 7 #[.slice a0 len0 cap0, .slice a1 len1 cap1, .int .i64 a2] w fun e w' => e = .returned (.bool true) ∧ Below w.heap.size w w' := by
  by_cases h : 4096 < len0 ∨ 4096 < len1 ∨ a2 < 1 ∨ 8192 < a2 ∨ len0 = 0 ∨ len1 = 0
  · exact walk_idle a0 len0 cap0 a1 len1 cap1 a2 w h
  · cases a0 with
    | none => have := w0.none; omega
    | some x0 =>
      cases a1 with
      | none => have := w1.none; omega
      | some x1 =>
        have m0 := walk_main x0 len0 cap0 (fun i => z0.getD i 0) x1 len1 cap1 (fun i => z1.getD i 0) a2.toNat w w0.some.1 w0.some.2 w1.some.1 w1.some.2 (by omega) (by omega) (by omega) (by omega) (by omega) (by omega)
        rw [show ((a2.toNat : Nat) : Int) = a2 from by omega] at m0
        exact m0

/-! ### THE ROW's STEP: WRITTEN OUT: LEAVE IT -/
set_option maxRecDepth 100000 in
theorem lifted (os : Os) (started : os.Started) (H : Type) (enc : TypeId × Value → H) :
    ReturnsInHanded {} Try.checked os 7 .any (Rows.fnSplitStepsStrictlyInsideAtAnyCostSpec.pre6 enc Try.prog Try.f7 Rows.fnSplitStepsStrictlyInsideAtAnyCostRow.domain false) (Rows.fnSplitStepsStrictlyInsideAtAnyCostSpec.post enc Try.prog Try.f7 false true false false) := by
  refine returnsInHanded_of_change (C := Try.checked) own started (by kernel_rfl) Try.func7
    (ChangeSpec.witness6 (enc := enc) (C := Try.checked) false ⟨#[], #[.slice none 0 0, .slice none 0 0, .int .i64 0], []⟩ 8 (by kernel_rfl) (by kernel_rfl) (by kernel_rfl) (by kernel_rfl)) ?_
  intro W base args ds gs before hval0 hW hcnd _
  have hval : ∀ (j : Nat) t v, Try.f7.params[j]? = some t → args[j]? = some v → Value.okWide Try.prog W .any base t v := hval0
  have hW' := hW
  obtain ⟨p, q, hA0, hV, rfl, hfz, hnd⟩ := hW
  have hA : DataW.TrodAll enc Try.prog W 0 (fun _ => true) true Try.f7.params.toList args.toList ds p := hA0
  rw [Try.params7] at hA hval
  obtain ⟨v0, vs0, d0, ds0, p0, q0, hargs, rfl, rfl, h0, r0⟩ := trodAll_cons hA
  obtain ⟨v1, vs1, d1, ds1, p1, q1, rfl, rfl, rfl, h1, r1⟩ := trodAll_cons r0
  obtain ⟨v2, vs2, d2, ds2, p2, q2, rfl, rfl, rfl, h2, r2⟩ := trodAll_cons r1
  obtain ⟨rfl, rfl, rfl⟩ := trodAll_nil r2
  obtain rfl : args = #[v0, v1, v2] := by cases args; simp_all
  obtain ⟨rfl, rfl⟩ := trodVars_none hV
  obtain ⟨a0, len0, cap0, rfl⟩ := okWide_slice Try.underlying22 (hval 0 22 v0 rfl rfl)
  have k0 := h0
  have lt0 : ∀ x ∈ p0, x.block < W.heap.size := by obtain ⟨m, hm⟩ := k0; exact DataW.trod_lt m _ _ _ hm
  obtain ⟨z0, w0⟩ : ∃ zs, IsRow .i64 W a0 len0 cap0 zs := by
    obtain ⟨fuel, hf⟩ := h0
    rcases open_ints Try.underlying22 Try.underlying3 (by kernel_rfl) hf with ⟨hcs, _⟩ | ⟨x, l, c, zs, hcs, _, hl, hm, hz, _, hcell, hwz⟩
    · simp [Value.cells] at hcs
      obtain ⟨rfl, rfl, rfl⟩ := hcs
      exact ⟨[], .inl ⟨rfl, rfl, rfl, rfl⟩⟩
    · simp [Value.cells] at hcs
      obtain ⟨rfl, rfl, rfl⟩ := hcs
      exact ⟨zs, .inr ⟨_, rfl, hl, hm, by simpa using hz, hcell, hwz⟩⟩
  obtain ⟨a1, len1, cap1, rfl⟩ := okWide_slice Try.underlying22 (hval 1 22 v1 rfl rfl)
  have k1 := h1
  have lt1 : ∀ x ∈ p1, x.block < W.heap.size := by obtain ⟨m, hm⟩ := k1; exact DataW.trod_lt m _ _ _ hm
  obtain ⟨z1, w1⟩ : ∃ zs, IsRow .i64 W a1 len1 cap1 zs := by
    obtain ⟨fuel, hf⟩ := h1
    rcases open_ints Try.underlying22 Try.underlying3 (by kernel_rfl) hf with ⟨hcs, _⟩ | ⟨x, l, c, zs, hcs, _, hl, hm, hz, _, hcell, hwz⟩
    · simp [Value.cells] at hcs
      obtain ⟨rfl, rfl, rfl⟩ := hcs
      exact ⟨[], .inl ⟨rfl, rfl, rfl, rfl⟩⟩
    · simp [Value.cells] at hcs
      obtain ⟨rfl, rfl, rfl⟩ := hcs
      exact ⟨zs, .inr ⟨_, rfl, hl, hm, by simpa using hz, hcell, hwz⟩⟩
  obtain ⟨a2, rfl, rfl, rfl, w2⟩ := open_int Try.underlying3 (hval 2 3 v2 rfl rfl) h2
  clear hA0 hval0
  refine (walk a0 len0 cap0 z0 a1 len1 cap1 z1 a2 W w0 w1 w2).mono fun e W' ⟨he, bel⟩ => ?_
  subst he
  exact ⟨_, rfl, _, _, _, [], _, [], hW', trodAll_mk1 (shut_bool Try.underlying4 _), (trodAll_cons_mk (Below.trod laidOut (by kernel_rfl) (of_decide_eq_true (by kernel_rfl)) k0 bel lt0) (trodAll_cons_mk (Below.trod laidOut (by kernel_rfl) (of_decide_eq_true (by kernel_rfl)) k1 bel lt1) (trodAll_cons_mk (shut_int Try.underlying3 w2) trodAll_mk0))), rfl, bel.frame _, fun h => by cases h⟩

theorem over : Rows.fnSplitStepsStrictlyInsideAtAnyCostRow.holds Try.pinned (OpenSpec.ofChange Rows.fnSplitStepsStrictlyInsideAtAnyCostSpec) :=
  OpenClaim.holds_of_wide 7 Try.f7 rfl rfl rfl rfl rfl rfl rfl ⟨rfl, rfl, rfl, rfl, rfl⟩ rfl rfl rfl rfl rfl (by kernel_rfl) Try.func7 (by kernel_rfl)
    (of_decide_eq_true (by kernel_rfl)) (by unfold Func.isWrapper; first | (rw [if_pos (by decide +kernel)]; kernel_rfl) | (rw [if_neg (by decide +kernel)]; exact ⟨rfl, rfl⟩))
    (fun os started H enc _ => lifted os started H enc)

/-- ████ THE STATEMENT ████ -/
theorem proved : Rows.FnSplitStepsStrictlyInsideAtAnyCostSaid := over
end Go.Proofs.Qxb6600330a.fnSplitStepsStrictlyInsideAtAnyCost
