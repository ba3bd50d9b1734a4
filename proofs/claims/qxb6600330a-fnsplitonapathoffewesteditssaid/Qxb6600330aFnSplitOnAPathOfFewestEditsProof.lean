import Derived.Test.Qxb6600330aRows
import Derived.Test.Qxb6600330aZzSplit
import Derived.Test.Qxb6600330aSmall3
import Derived.Test.Qxb6600330aSmall
import Derived.Test.Qxb6600330aSmall2
import Derived.Test.Qxb6600330aLcsInt
import Derived.Deep.RegionWith
import Derived.WalkKit
import Derived.ProofKit
import Derived.OpenShut
import Derived.ShutString
import Derived.ChangeOld
import Derived.Below
namespace Go.Proofs.Qxb6600330a.fnSplitOnAPathOfFewestEdits
open Go.ChangeShapes Go.WideShapes Go.ChangeAt Go.RowKit
open Go.ChangeMaps (open_string shut_string)
set_option linter.unusedVariables false

theorem own : ownKnob Try.prog.godebug = none := by kernel_rfl
theorem laidOut : laidOutB Try.prog = true := by kernel_rfl

/-- WHAT THE WALK IS TOLD OF A SLICE OF INTEGERS THAT CAME IN: it is nil; or it leads to a row of 'cap' cells, the numbers 'zs' (the first 'len' are its elements, the rest its spare room), each fitting its kind. -/
def IsRow (k : IntKind) (w : World) (a : Option Addr) (len cap : Nat) (zs : List Int) : Prop :=
  (a = none ∧ len = 0 ∧ cap = 0 ∧ zs = []) ∨
  ∃ x, a = some x ∧ len ≤ cap ∧ cap ≤ maxLen ∧ zs.length = cap ∧ (∀ i, i < zs.length → w.cell? (x.add i) = some (.int k (zs.getD i 0))) ∧ ∀ n ∈ zs, (Lit.int k n).wf = true

/-- What a row says of its cells. -/
theorem IsRow.some {w : World} {x : Addr} {len cap : Nat} {zs : List Int} (h : IsRow .i64 w (some x) len cap zs) :
    (∀ i, i < len → w.cell? ⟨x.block, x.off + i, none⟩ = some (.int .i64 (zs.getD i 0))) ∧ (0 < len → x.spot = none) := by
  rcases h with ⟨h, _⟩ | ⟨y, hy, hl, _, hz, hc, _⟩
  · cases h
  · obtain rfl : x = y := by cases hy; rfl
    have sp : 0 < len → x.spot = none := by
      intro h0
      have := hc 0 (by omega)
      unfold World.cell? at this
      by_cases e : x.spot = none
      · exact e
      · exfalso
        have e' : (x.add 0).spot.isSome = true := by
          show x.spot.isSome = true
          cases hx : x.spot with
          | none => exact absurd hx e
          | some _ => rfl
        rw [e'] at this
        simp at this
        split at this <;> simp at this
    refine ⟨fun i hi => ?_, sp⟩
    have := hc i (by omega)
    obtain ⟨b, o, s⟩ := x
    obtain rfl : s = none := sp (by omega)
    rw [Addr.add_lit] at this
    exact this
theorem IsRow.none {w : World} {len cap : Nat} {zs : List Int} (h : IsRow .i64 w none len cap zs) : len = 0 ∧ cap = 0 := by
  rcases h with ⟨_, h1, h2, _⟩ | ⟨y, hy, _⟩
  · exact ⟨h1, h2⟩
  · cases hy

theorem whole (ba bb N M mc : Nat) (A B : Nat → Int) (w : World) (hN : N ≤ 4096) (hM : M ≤ 4096) (hmc : 1 ≤ mc) (hmc' : mc ≤ 8500) (ha : 0 < N) (hb : 0 < M)
    (hra : IntRow w ba 0 N A) (hrb : IntRow w bb 0 M B) (h0 : ¬ A 0 = B 0) (h1 : ¬ A (N - 1) = B (M - 1)) :
    Calls Try.prog 21 #[.slice (some ⟨ba, 0, none⟩) N N, .slice (some ⟨bb, 0, none⟩) M M, .int .i64 mc, .int .i64 0, .int .i64 N, .int .i64 0, .int .i64 M] w fun e w' => ∃ X Y : Nat, e = .returned (.tuple #[.int .i64 (X : Int), .int .i64 (Y : Int)]) ∧
      Plain.Inside (tab A B) N M mc X Y ∧ Below w.heap.size w w' := by
  have e1 : (fun i => A (0 + i)) = A := funext fun i => by rw [Nat.zero_add]
  have e2 : (fun i => B (0 + i)) = B := funext fun i => by rw [Nat.zero_add]
  have h := zzsplit_any ba bb N M mc 0 N 0 M A B w hN hM hmc hmc' ha (Nat.le_refl _) hb (Nat.le_refl _) hra hrb (by
    rw [e1, e2]
    exact Plain.fewest_two (by omega) (by omega) (by rw [tab_true]; exact h0) (by rw [tab_true]; exact h1))
  rw [e1, e2] at h
  refine h.mono ?_
  rintro e w' ⟨X, Y, rfl, hin, hbl⟩
  exact ⟨X, Y, by rw [Nat.zero_add, Nat.zero_add], hin, hbl⟩

set_option maxRecDepth 100000 in
set_option maxHeartbeats 1000000 in
/-- The main way. -/
theorem walk_main (x0 : Addr) (len0 cap0 : Nat) (Z0 : Nat → Int) (x1 : Addr) (len1 cap1 : Nat) (Z1 : Nat → Int) (mc : Nat) (w : World) (hc0 : ∀ i, i < len0 → w.cell? ⟨x0.block, x0.off + i, Option.none⟩ = Option.some (.int .i64 (Z0 i))) (hs0 : 0 < len0 → x0.spot = Option.none)
    (hc1 : ∀ i, i < len1 → w.cell? ⟨x1.block, x1.off + i, Option.none⟩ = Option.some (.int .i64 (Z1 i))) (hs1 : 0 < len1 → x1.spot = Option.none) (h0 : 1 ≤ len0) (h1 : 1 ≤ len1) (hl0 : len0 ≤ 4096) (hl1 : len1 ≤ 4096) (hm1 : 1 ≤ mc) (hm2 : mc ≤ 8192) :
    Calls Try.prog 6 #[.slice (Option.some x0) len0 cap0, .slice (Option.some x1) len1 cap1, .int .i64 (mc : Int)] w fun e w' => e = .returned (.bool true) ∧ Below w.heap.size w w' := by
  obtain ⟨b0, o0, s0⟩ := x0
  obtain ⟨b1, o1, s1⟩ := x1
  obtain rfl : s0 = Option.none := hs0 (by omega)
  obtain rfl : s1 = Option.none := hs1 (by omega)
  have C1 : Hid (IntRow w b0 o0 len0 Z0 ∧ IntRow w b1 o1 len1 Z1) := ⟨hc0, hc1⟩
  clear hc0 hc1 hs0 hs1
  have g0 : (len0 : Int) ≤ 4096 := by omega
  have g1 : (len1 : Int) ≤ 4096 := by omega
  have g2 : (1 : Int) ≤ (mc : Int) := by omega
  have g3 : (mc : Int) ≤ 8192 := by omega
  go_enter Try.func6, Try.ntmps6
  go_wp2_with fail
  refine (bytes19 _ _ _ _ _ _ _ _).mono ?_
  rintro e w' ⟨b, rfl, hww, hb⟩
  have hww' := hww.symm
  clear hww
  subst hww'
  obtain rfl : b = true := hb hl0 hl1
  clear hb
  go_wp2_with fail
  refine (premise_any b0 o0 b1 o1 len0 cap0 len1 cap1 Z0 Z1 _ h0 h1 hl0 hl1 C1.out.1 C1.out.2).mono ?_
  rintro e w1 ⟨b, rfl, hb, hw1⟩
  cases b with
  | false =>
    go_wp2_with fail
    go_ret
    exact ⟨rfl, hw1⟩
  | true =>
    have HP : Hid (¬ Z0 0 = Z1 0 ∧ ¬ Z0 (len0 - 1) = Z1 (len1 - 1)) := hb.1 rfl
    clear hb
    have k1 := kept_below hw1
    have C2 : Hid (IntRow w1 b0 o0 len0 Z0 ∧ IntRow w1 b1 o1 len1 Z1) := ⟨C1.out.1.kept k1 id, C1.out.2.kept k1 id⟩
    clear k1
    go_wp2_with fail
    refine (lcsInt_any _ _ len0 cap0 len1 cap1 Z0 Z1 _ hl0 hl1 (fun _ => ⟨b0, o0, rfl, C2.out.1⟩) (fun _ => ⟨b1, o1, rfl, C2.out.2⟩)).mono ?_
    rintro e w2 ⟨rfl, hw2⟩
    obtain ⟨l, el⟩ : ∃ l, l = Plain.L (tab Z0 Z1) len0 len1 := ⟨_, rfl⟩
    rw [← el]
    have HL : Hid (l = Plain.L (tab Z0 Z1) len0 len1) := el
    have le1 : (l : Int) ≤ len0 := by rw [el]; have := (Plain.L_le (tab Z0 Z1) len0 len1).1; omega
    have le2 : (l : Int) ≤ len1 := by rw [el]; have := (Plain.L_le (tab Z0 Z1) len0 len1).2; omega
    clear el
    have k2 := kept_below hw2
    have C3 : Hid (IntRow w2 b0 o0 len0 Z0 ∧ IntRow w2 b1 o1 len1 Z1) := ⟨C2.out.1.kept k2 id, C2.out.2.kept k2 id⟩
    clear k2 C2
    by_cases q : (mc : Int) < ((len0 : Int) + len1 - 2 * l + 1) / 2
    · go_wp2_with fail
      go_ret
      exact ⟨rfl, hw1.trans (hw2.mono hw1.size)⟩
    · have HF : Hid (Plain.fewest (tab Z0 Z1) len0 len1 ≤ 2 * mc) := by
        have := Plain.dist_eq (tab Z0 Z1) len0 len1
        have := HL.out
        unfold Plain.fewest
        show _ ≤ _
        omega
      go_wp2_with fail
      refine (clone_any ⟨b0, o0, Option.none⟩ len0 cap0 Z0 _ hl0 C3.out.1 (fun _ => rfl)).mono ?_
      rintro e w3 ⟨ca, rfl, ra, ga, hw3⟩
      have k3 := kept_below hw3
      go_wp2_with fail
      refine (clone_any ⟨b1, o1, Option.none⟩ len1 cap1 Z1 _ hl1 (C3.out.2.kept k3 id) (fun _ => rfl)).mono ?_
      rintro e w4 ⟨cb, rfl, rb, gb, hw4⟩
      have k4 := kept_below hw4
      have R4 : Hid (IntRow w4 ca 0 len0 Z0 ∧ IntRow w4 cb 0 len1 Z1) := ⟨fun i hi => by rw [Nat.zero_add]; exact (k4.row ra id).cell hi, fun i hi => by rw [Nat.zero_add]; exact rb.cell hi⟩
      clear k3 k4 ra rb ga gb
      go_wp2_with fail
      refine (whole ca cb len0 len1 mc Z0 Z1 _ hl0 hl1 hm1 (by omega) (by omega) (by omega) R4.out.1 R4.out.2 HP.out.1 HP.out.2).mono ?_
      rintro e w5 ⟨X, Y, rfl, hin, hw5⟩
      have hX := hin.1
      have hY := hin.2.1
      have k5 := kept_below hw5
      have R5 : Hid (IntRow w5 ca 0 len0 Z0 ∧ IntRow w5 cb 0 len1 Z1) := ⟨R4.out.1.kept k5 id, R4.out.2.kept k5 id⟩
      have HIN : Hid (Plain.Inside (tab Z0 Z1) len0 len1 mc X Y) := hin
      clear k5 hin R4
      go_wp2_with fail
      refine (inside_any X Y len0 len1 _ HIN.out.1 HIN.out.2.1 HIN.out.2.2.1 HIN.out.2.2.2.1).mono ?_
      rintro e w6 ⟨rfl, rfl⟩
      have HSUM : Hid (Plain.L (tab Z0 Z1) X Y + Plain.L (tab (fun i => Z0 (X + i)) (fun j => Z1 (Y + j))) (len0 - X) (len1 - Y) = l) := by
        have ho := HIN.out.2.2.2.2 HF.out
        have h3 := ho.2.2
        rw [Plain.S_shift (tab Z0 Z1) ho.1 ho.2.1] at h3
        rw [HL.out]
        exact h3
      have hbelow : Hid (Below w.heap.size w w6) := ((((hw1.trans (hw2.mono hw1.size)).trans (hw3.mono (Nat.le_trans hw1.size hw2.size))).trans (hw4.mono (Nat.le_trans hw1.size (Nat.le_trans hw2.size hw3.size)))).trans (hw5.mono (Nat.le_trans hw1.size (Nat.le_trans hw2.size (Nat.le_trans hw3.size hw4.size)))))
      have nn := ext_nonempty w6
      obtain ⟨p1, ep1⟩ : ∃ p1, p1 = Plain.L (tab Z0 Z1) X Y := ⟨_, rfl⟩
      obtain ⟨p2, ep2⟩ : ∃ p2, p2 = Plain.L (tab (fun i => Z0 (X + i)) (fun j => Z1 (Y + j))) (len0 - X) (len1 - Y) := ⟨_, rfl⟩
      have hp1 : p1 ≤ 4096 := by rw [ep1]; have := (Plain.L_le (tab Z0 Z1) X Y).1; omega
      have hp2 : p2 ≤ 4096 := by rw [ep2]; have := (Plain.L_le (tab (fun i => Z0 (X + i)) (fun j => Z1 (Y + j))) (len0 - X) (len1 - Y)).1; omega
      have HS2 : Hid (p1 + p2 = l) := by rw [ep1, ep2]; exact HSUM.out
      have hA : Hid (∀ (y : Ext w6) (ao bo : Option Addr) (c0 c1 : Nat), ao = some ⟨ca, 0, none⟩ → bo = some ⟨cb, 0, none⟩ → Calls Try.prog 17 #[.slice ao X c0, .slice bo Y c1] (wext w6 y) fun e w' => e = .returned (.int .i64 (p1 : Int)) ∧ Below (wext w6 y).heap.size (wext w6 y) w') := by
        intro y ao bo c0 c1 e1 e2
        have ky := kept_below (wext_below w6 y)
        rw [ep1, e1, e2]
        refine lcsInt_any _ _ X c0 Y c1 Z0 Z1 _ (by omega) (by omega) (fun _ => ⟨ca, 0, rfl, ?_⟩) (fun _ => ⟨cb, 0, rfl, ?_⟩)
        · intro i hi
          exact (R5.out.1.kept ky id) i (by omega)
        · intro i hi
          exact (R5.out.2.kept ky id) i (by omega)
      have hB : Hid (∀ (y : Ext w6) (ao bo : Option Addr) (c0 c1 : Nat), (X < len0 → ao = some ⟨ca, X, none⟩) → (Y < len1 → bo = some ⟨cb, Y, none⟩) → Calls Try.prog 17 #[.slice ao (len0 - X) c0, .slice bo (len1 - Y) c1] (wext w6 y) fun e w' => e = .returned (.int .i64 (p2 : Int)) ∧ Below (wext w6 y).heap.size (wext w6 y) w') := by
        intro y ao bo c0 c1 e1 e2
        have ky := kept_below (wext_below w6 y)
        rw [ep2]
        refine lcsInt_any _ _ (len0 - X) c0 (len1 - Y) c1 (fun i => Z0 (X + i)) (fun j => Z1 (Y + j)) _ (by omega) (by omega) (fun h => ⟨ca, X, e1 (by omega), ?_⟩) (fun h => ⟨cb, Y, e2 (by omega), ?_⟩)
        · intro i hi
          have := (R5.out.1.kept ky id) (X + i) (by omega)
          rw [Nat.zero_add] at this
          exact this
        · intro i hi
          have := (R5.out.2.kept ky id) (Y + i) (by omega)
          rw [Nat.zero_add] at this
          exact this
      clear ep1 ep2 HSUM HIN HF HL C1 C3 R5
      have i1 : (X : Int) ≤ len0 := by omega
      have i2 : (Y : Int) ≤ len1 := by omega
      by_cases qx : X < len0 <;> by_cases qy : Y < len1
      all_goals
        go_wp2_with fail
        refine wp_region_ext (by kernel_rfl) (by kernel_rfl) ?_
        repeat (go_big_quiet_step (first | (go_at_call_of 17 (len0 - X); exact Calls.ext (hB.out _ _ _ _ _ (fun h => by first | rfl | (exfalso; omega)) (fun h => by first | rfl | (exfalso; omega)))) | (go_at_call 17; exact Calls.ext (hA.out _ _ _ _ _ rfl rfl))))
        refine wpQuiet_nil ?_
        intro w7 hw7
        go_wp2
        go_ret
        refine ⟨?_, hbelow.out.trans (hw7.mono hbelow.out.size)⟩
        have e : ((p1 : Int) + p2 == l) = true := by have := HS2.out; simp; omega
        show Ending.returned (.bool ((p1 : Int) + p2 == l)) = _
        rw [e]

set_option maxHeartbeats 1000000 in
/-- Where the law's own tests say: nothing is asked. -/
theorem walk_idle (a0 : Option Addr) (len0 cap0 : Nat) (a1 : Option Addr) (len1 cap1 : Nat) (a2 : Int) (w : World) (h : 4096 < len0 ∨ 4096 < len1 ∨ a2 < 1 ∨ 8192 < a2 ∨ len0 = 0 ∨ len1 = 0) :
    Calls Try.prog 6 #[.slice a0 len0 cap0, .slice a1 len1 cap1, .int .i64 a2] w fun e w' => e = .returned (.bool true) ∧ Below w.heap.size w w' := by
  have H : Hid (4096 < len0 ∨ 4096 < len1 ∨ a2 < 1 ∨ 8192 < a2 ∨ len0 = 0 ∨ len1 = 0) := h
  clear h
  go_enter Try.func6, Try.ntmps6
  go_wp2_with fail
  refine (bytes19 _ _ _ _ _ _ _ _).mono ?_
  rintro e w' ⟨b, rfl, rfl, hb⟩
  clear hb
  cases b with
  | false =>
    go_wp2_with fail
    go_ret
    exact ⟨rfl, Below.refl _ _⟩
  | true =>
    by_cases q1 : (4096 : Int) < len0
    · go_wp2_with fail
      go_ret
      exact ⟨rfl, Below.refl _ _⟩
    · by_cases q2 : (4096 : Int) < len1
      · go_wp2_with fail
        go_ret
        exact ⟨rfl, Below.refl _ _⟩
      · by_cases q3 : a2 < 1
        · go_wp2_with fail
          go_ret
          exact ⟨rfl, Below.refl _ _⟩
        · by_cases q4 : 8192 < a2
          · go_wp2_with fail
            go_ret
            exact ⟨rfl, Below.refl _ _⟩
          · go_wp2_with fail
            refine (premise_short _ _ _ _ _ _ _ (by have := H.out; omega)).mono ?_
            rintro e w1 ⟨rfl, rfl⟩
            go_wp2_with fail
            go_ret
            exact ⟨rfl, Below.refl _ _⟩

theorem walk (a0 : Option Addr) (len0 cap0 : Nat) (z0 : List Int) (a1 : Option Addr) (len1 cap1 : Nat) (z1 : List Int) (a2 : Int) (w : World) (w0 : IsRow .i64 w a0 len0 cap0 z0) (w1 : IsRow .i64 w a1 len1 cap1 z1) (w2 : (Lit.int .i64 a2).wf = true) :
    Calls Try.prog 6 #[.slice a0 len0 cap0, .slice a1 len1 cap1, .int .i64 a2] w fun e w' => e = .returned (.bool true) ∧ Below w.heap.size w w' := by
  by_cases h : 4096 < len0 ∨ 4096 < len1 ∨ a2 < 1 ∨ 8192 < a2 ∨ len0 = 0 ∨ len1 = 0
  · exact walk_idle a0 len0 cap0 a1 len1 cap1 a2 w h
  · cases a0 with
    | none => have := w0.none; omega
    | some x0 =>
      cases a1 with
      | none => have := w1.none; omega
      | some x1 =>
        have m0 := walk_main x0 len0 cap0 (fun i => z0.getD i 0) x1 len1 cap1 (fun i => z1.getD i 0) a2.toNat w w0.some.1 w0.some.2 w1.some.1 w1.some.2 (by omega) (by omega) (by omega) (by omega) (by omega) (by omega)
        rw [show ((a2.toNat : Nat) : Int) = a2 from by omega] at m0
        exact m0

/-! ### THE ROW's STEP: WRITTEN OUT: LEAVE IT -/
set_option maxRecDepth 100000 in
theorem lifted (os : Os) (started : os.Started) (H : Type) (enc : TypeId × Value → H) :
    ReturnsInHanded {} Try.checked os 6 .any (Rows.fnSplitOnAPathOfFewestEditsSpec.pre6 enc Try.prog Try.f6 Rows.fnSplitOnAPathOfFewestEditsRow.domain false) (Rows.fnSplitOnAPathOfFewestEditsSpec.post enc Try.prog Try.f6 false true false false) := by
  refine returnsInHanded_of_change (C := Try.checked) own started (by kernel_rfl) Try.func6
    (ChangeSpec.witness6 (enc := enc) (C := Try.checked) false ⟨#[], #[.slice none 0 0, .slice none 0 0, .int .i64 0], []⟩ 8 (by kernel_rfl) (by kernel_rfl) (by kernel_rfl) (by kernel_rfl)) ?_
  intro W base args ds gs before hval0 hW hcnd _
  have hval : ∀ (j : Nat) t v, Try.f6.params[j]? = some t → args[j]? = some v → Value.okWide Try.prog W .any base t v := hval0
  have hW' := hW
  obtain ⟨p, q, hA0, hV, rfl, hfz, hnd⟩ := hW
  have hA : DataW.TrodAll enc Try.prog W 0 (fun _ => true) true Try.f6.params.toList args.toList ds p := hA0
  rw [Try.params6] at hA hval
  obtain ⟨v0, vs0, d0, ds0, p0, q0, hargs, rfl, rfl, h0, r0⟩ := trodAll_cons hA
  obtain ⟨v1, vs1, d1, ds1, p1, q1, rfl, rfl, rfl, h1, r1⟩ := trodAll_cons r0
  obtain ⟨v2, vs2, d2, ds2, p2, q2, rfl, rfl, rfl, h2, r2⟩ := trodAll_cons r1
  obtain ⟨rfl, rfl, rfl⟩ := trodAll_nil r2
  obtain rfl : args = #[v0, v1, v2] := by cases args; simp_all
  obtain ⟨rfl, rfl⟩ := trodVars_none hV
  obtain ⟨a0, len0, cap0, rfl⟩ := okWide_slice Try.underlying22 (hval 0 22 v0 rfl rfl)
  have k0 := h0
  have lt0 : ∀ x ∈ p0, x.block < W.heap.size := by obtain ⟨m, hm⟩ := k0; exact DataW.trod_lt m _ _ _ hm
  obtain ⟨z0, w0⟩ : ∃ zs, IsRow .i64 W a0 len0 cap0 zs := by
    obtain ⟨fuel, hf⟩ := h0
    rcases open_ints Try.underlying22 Try.underlying3 (by kernel_rfl) hf with ⟨hcs, _⟩ | ⟨x, l, c, zs, hcs, _, hl, hm, hz, _, hcell, hwz⟩
    · simp [Value.cells] at hcs
      obtain ⟨rfl, rfl, rfl⟩ := hcs
      exact ⟨[], .inl ⟨rfl, rfl, rfl, rfl⟩⟩
    · simp [Value.cells] at hcs
      obtain ⟨rfl, rfl, rfl⟩ := hcs
      exact ⟨zs, .inr ⟨_, rfl, hl, hm, by simpa using hz, hcell, hwz⟩⟩
  obtain ⟨a1, len1, cap1, rfl⟩ := okWide_slice Try.underlying22 (hval 1 22 v1 rfl rfl)
  have k1 := h1
  have lt1 : ∀ x ∈ p1, x.block < W.heap.size := by obtain ⟨m, hm⟩ := k1; exact DataW.trod_lt m _ _ _ hm
  obtain ⟨z1, w1⟩ : ∃ zs, IsRow .i64 W a1 len1 cap1 zs := by
    obtain ⟨fuel, hf⟩ := h1
    rcases open_ints Try.underlying22 Try.underlying3 (by kernel_rfl) hf with ⟨hcs, _⟩ | ⟨x, l, c, zs, hcs, _, hl, hm, hz, _, hcell, hwz⟩
    · simp [Value.cells] at hcs
      obtain ⟨rfl, rfl, rfl⟩ := hcs
      exact ⟨[], .inl ⟨rfl, rfl, rfl, rfl⟩⟩
    · simp [Value.cells] at hcs
      obtain ⟨rfl, rfl, rfl⟩ := hcs
      exact ⟨zs, .inr ⟨_, rfl, hl, hm, by simpa using hz, hcell, hwz⟩⟩
  obtain ⟨a2, rfl, rfl, rfl, w2⟩ := open_int Try.underlying3 (hval 2 3 v2 rfl rfl) h2
  clear hA0 hval0
  refine (walk a0 len0 cap0 z0 a1 len1 cap1 z1 a2 W w0 w1 w2).mono fun e W' ⟨he, bel⟩ => ?_
  subst he
  exact ⟨_, rfl, _, _, _, [], _, [], hW', trodAll_mk1 (shut_bool Try.underlying4 _), (trodAll_cons_mk (Below.trod laidOut (by kernel_rfl) (of_decide_eq_true (by kernel_rfl)) k0 bel lt0) (trodAll_cons_mk (Below.trod laidOut (by kernel_rfl) (of_decide_eq_true (by kernel_rfl)) k1 bel lt1) (trodAll_cons_mk (shut_int Try.underlying3 w2) trodAll_mk0))), rfl, bel.frame _, fun h => by cases h⟩

theorem over : Rows.fnSplitOnAPathOfFewestEditsRow.holds Try.pinned (OpenSpec.ofChange Rows.fnSplitOnAPathOfFewestEditsSpec) :=
  OpenClaim.holds_of_wide 6 Try.f6 rfl rfl rfl rfl rfl rfl rfl ⟨rfl, rfl, rfl, rfl, rfl⟩ rfl rfl rfl rfl rfl (by kernel_rfl) Try.func6 (by kernel_rfl)
    (of_decide_eq_true (by kernel_rfl)) (by unfold Func.isWrapper; first | (rw [if_pos (by decide +kernel)]; kernel_rfl) | (rw [if_neg (by decide +kernel)]; exact ⟨rfl, rfl⟩))
    (fun os started H enc _ => lifted os started H enc)

/-- ████ THE STATEMENT ████ -/
theorem proved : Rows.FnSplitOnAPathOfFewestEditsSaid := over
end Go.Proofs.Qxb6600330a.fnSplitOnAPathOfFewestEdits
