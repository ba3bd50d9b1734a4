import Derived.Test.Qxb6600330aRows
import Derived.Test.Qxb6600330aZzCompare
import Derived.Test.Qxb6600330aSmall3
import Derived.Test.Qxb6600330aAgree
import Derived.WalkKit
import Derived.ProofKit
import Derived.OpenShut
import Derived.ShutString
import Derived.ChangeOld
import Derived.Below
namespace Go.Proofs.Qxb6600330a.fnCompareKeepsLongestCommonSubsequence
open Go.ChangeShapes Go.WideShapes Go.ChangeAt Go.RowKit
open Go.ChangeMaps (open_string shut_string)
set_option linter.unusedVariables false

theorem own : ownKnob Try.prog.godebug = none := by kernel_rfl
theorem laidOut : laidOutB Try.prog = true := by kernel_rfl

/-- WHAT THE WALK IS TOLD OF A SLICE OF INTEGERS THAT CAME IN: it is nil; or it leads to a row of 'cap' cells, the numbers 'zs' (the first 'len' are its elements, the rest its spare room), each fitting its kind. -/
def IsRow (k : IntKind) (w : World) (a : Option Addr) (len cap : Nat) (zs : List Int) : Prop :=
  (a = none ∧ len = 0 ∧ cap = 0 ∧ zs = []) ∨
  ∃ x, a = some x ∧ len ≤ cap ∧ cap ≤ maxLen ∧ zs.length = cap ∧ (∀ i, i < zs.length → w.cell? (x.add i) = some (.int k (zs.getD i 0))) ∧ ∀ n ∈ zs, (Lit.int k n).wf = true

/-- What a row says of its cells. -/
theorem IsRow.asl {w : World} {a : Option Addr} {len cap : Nat} {zs : List Int} (h : IsRow .i64 w a len cap zs) : ASl w a len cap (fun i => zs.getD i 0) := by
  rcases h with ⟨h1, h2, h3, _⟩ | ⟨x, hx, hl, _, hz, hc, _⟩
  · exact .inl ⟨h1, h2, h3⟩
  · have sp : 0 < len → x.spot = none := by
      intro h0
      have := hc 0 (by omega)
      unfold World.cell? at this
      by_cases e : x.spot = none
      · exact e
      · exfalso
        have e' : (x.add 0).spot.isSome = true := by
          show x.spot.isSome = true
          cases hx : x.spot with
          | none => exact absurd hx e
          | some _ => rfl
        rw [e'] at this
        simp at this
        split at this <;> simp at this
    refine .inr ⟨x, hx, fun i hi => ?_, sp⟩
    have := hc i (by omega)
    obtain ⟨b, o, s⟩ := x
    obtain rfl : s = none := sp (by omega)
    rw [Addr.add_lit] at this
    exact this

set_option maxRecDepth 100000 in
set_option maxHeartbeats 2000000 in
/-- The main way. -/
theorem walk_main (a0 : Option Addr) (len0 cap0 : Nat) (Z0 : Nat → Int) (a1 : Option Addr) (len1 cap1 : Nat) (Z1 : Nat → Int) (mc : Nat) (w : World) (h0 : ASl w a0 len0 cap0 Z0) (h1 : ASl w a1 len1 cap1 Z1) (hl0 : len0 ≤ 4096) (hl1 : len1 ≤ 4096) (hm1 : 1 ≤ mc) (hm2 : mc ≤ 8192) :
    Calls Try.prog 4 #[.slice a0 len0 cap0, .slice a1 len1 cap1, .int .i64 (mc : Int)] w fun e w' => e = .returned (.bool true) ∧ Below w.heap.size w w' := by
  have C1 : Hid (ASl w a0 len0 cap0 Z0 ∧ ASl w a1 len1 cap1 Z1) := ⟨h0, h1⟩
  clear h0 h1
  have g0 : (len0 : Int) ≤ 4096 := by omega
  have g1 : (len1 : Int) ≤ 4096 := by omega
  have g2 : (1 : Int) ≤ (mc : Int) := by omega
  have g3 : (mc : Int) ≤ 8192 := by omega
  go_enter Try.func4, Try.ntmps4
  go_wp2_with fail
  refine (bytes15 _ _ _ _ _ _ _ _).mono ?_
  rintro e w' ⟨b, rfl, hww, hb⟩
  have hww' := hww.symm
  clear hww
  subst hww'
  obtain rfl : b = true := hb hl0 hl1
  clear hb
  go_wp2_with fail
  refine (clone_opt a0 len0 cap0 Z0 _ hl0 C1.out.1).mono ?_
  rintro e w1 ⟨ao, rfl, ra, hw1⟩
  have C2 : Hid (ASl w1 a1 len1 cap1 Z1) := C1.out.2.later hw1
  have R1 : Hid (CSl w1 ao len0 Z0) := ra
  clear C1 ra
  go_wp2_with fail
  refine (clone_opt a1 len1 cap1 Z1 _ hl1 C2.out).mono ?_
  rintro e w2 ⟨bo, rfl, rb, hw2⟩
  have R2 : Hid (CSl w2 ao len0 Z0 ∧ CSl w2 bo len1 Z1) := ⟨R1.out.later hw2, rb⟩
  clear C2 R1 rb
  go_wp2_with fail
  refine (zzcompare_any ao bo len0 len1 mc Z0 Z1 _ hl0 hl1 hm1 (by omega) R2.out.1 R2.out.2).mono ?_
  rintro e w3 ⟨br, bad, R, D, rfl, rr, rd, _, _, _, hcmp, hw3⟩
  have R3 : Hid (CSl w3 ao len0 Z0 ∧ CSl w3 bo len1 Z1 ∧ w3.rowIs br 4 len0 (fun i => .bool (R i)) ∧ w3.rowIs bad 4 len1 (fun j => .bool (D j))) := ⟨R2.out.1.later hw3, R2.out.2.later hw3, rr, rd⟩
  have HC : Hid (Plain.Cmp Z0 Z1 mc 0 len0 0 len1 (fun _ => false) (fun _ => false) R D) := hcmp
  clear R2 rr rd hcmp
  go_wp2_with fail
  refine (keptAgree_any ao bo br bad len0 len0 len1 len1 Z0 Z1 R D _ hl0 hl1 R3.out.1.sl R3.out.2.1.sl R3.out.2.2.1 R3.out.2.2.2 HC.out.same).mono ?_
  rintro e w4 ⟨rfl, hw4⟩
  have R4 : Hid (CSl w4 ao len0 Z0 ∧ CSl w4 bo len1 Z1) := ⟨R3.out.1.later hw4, R3.out.2.1.later hw4⟩
  clear R3
  obtain ⟨kc, ekc⟩ : ∃ kc, kc = (Plain.kept Z0 R 0 len0).length := ⟨_, rfl⟩
  rw [← ekc]
  have EKC : Hid (kc = (Plain.kept Z0 R 0 len0).length) := ekc
  clear ekc
  go_wp2_with fail
  refine (lcsInt_any ao bo len0 len0 len1 len1 Z0 Z1 _ hl0 hl1 R4.out.1.sl R4.out.2.sl).mono ?_
  rintro e w5 ⟨rfl, hw5⟩
  obtain ⟨l, el⟩ : ∃ l, l = Plain.L (tab Z0 Z1) len0 len1 := ⟨_, rfl⟩
  rw [← el]
  have hbx : Plain.bx Z0 Z1 0 0 = tab Z0 Z1 := by
    unfold Plain.bx
    have e1 : (fun i => Z0 (0 + i)) = Z0 := funext fun i => by rw [Nat.zero_add]
    have e2 : (fun i => Z1 (0 + i)) = Z1 := funext fun i => by rw [Nat.zero_add]
    rw [e1, e2]
  have f1 : kc ≤ l := by
    have := HC.out.le
    rw [hbx] at this
    rw [EKC.out, el]; exact this
  have le1 : (l : Int) ≤ len0 := by rw [el]; have := (Plain.L_le (tab Z0 Z1) len0 len1).1; omega
  have le2 : (l : Int) ≤ len1 := by rw [el]; have := (Plain.L_le (tab Z0 Z1) len0 len1).2; omega
  have HF : Hid ((len0 : Int) + len1 - 2 * l ≤ 2 * mc → kc = l) := by
    intro hle
    have := HC.out.opt
    rw [hbx] at this
    rw [EKC.out, el]
    refine this ?_
    have hd := Plain.dist_eq (tab Z0 Z1) len0 len1
    show Plain.dist (tab Z0 Z1) (len0 - 0) (len1 - 0) ≤ 2 * mc
    rw [Nat.sub_zero, Nat.sub_zero]
    rw [el] at hle
    omega
  have hbelow : Hid (Below w.heap.size w w5) := (((hw1.trans (hw2.mono hw1.size)).trans (hw3.mono (Nat.le_trans hw1.size hw2.size))).trans (hw4.mono (Nat.le_trans hw1.size (Nat.le_trans hw2.size hw3.size)))).trans (hw5.mono (Nat.le_trans hw1.size (Nat.le_trans hw2.size (Nat.le_trans hw3.size hw4.size))))
  clear el EKC hbx HC R4 hw1 hw2 hw3 hw4 hw5
  by_cases q : ((len0 : Int) + len1 - 2 * l + 1) / 2 ≤ (mc : Int)
  · have e : kc = l := HF.out (by omega)
    have d : ((kc : Int) == (l : Int)) = true := by rw [e]; simp
    clear e
    go_wp2_with fail
    go_ret
    refine ⟨?_, hbelow.out⟩
    first | rfl | (show Ending.returned (.bool ((kc : Int) == (l : Int))) = _; rw [d])
  · have d : (kc : Int) ≤ (l : Int) := by omega
    go_wp2_with fail
    go_ret
    refine ⟨?_, hbelow.out⟩
    first | rfl | (show Ending.returned (.bool (decide ((kc : Int) ≤ (l : Int)))) = _; rw [decide_eq_true d])

set_option maxHeartbeats 1000000 in
/-- Where the law's own tests say: nothing is asked. -/
theorem walk_idle (a0 : Option Addr) (len0 cap0 : Nat) (a1 : Option Addr) (len1 cap1 : Nat) (a2 : Int) (w : World) (h : 4096 < len0 ∨ 4096 < len1 ∨ a2 < 1 ∨ 8192 < a2) :
    Calls Try.prog 4 #[.slice a0 len0 cap0, .slice a1 len1 cap1, .int .i64 a2] w fun e w' => e = .returned (.bool true) ∧ Below w.heap.size w w' := by
  have H : Hid (4096 < len0 ∨ 4096 < len1 ∨ a2 < 1 ∨ 8192 < a2) := h
  clear h
  go_enter Try.func4, Try.ntmps4
  go_wp2_with fail
  refine (bytes15 _ _ _ _ _ _ _ _).mono ?_
  rintro e w' ⟨b, rfl, rfl, hb⟩
  clear hb
  cases b with
  | false =>
    go_wp2_with fail
    go_ret
    exact ⟨rfl, Below.refl _ _⟩
  | true =>
    by_cases q1 : (4096 : Int) < len0
    · go_wp2_with fail
      go_ret
      exact ⟨rfl, Below.refl _ _⟩
    · by_cases q2 : (4096 : Int) < len1
      · go_wp2_with fail
        go_ret
        exact ⟨rfl, Below.refl _ _⟩
      · by_cases q3 : a2 < 1
        · go_wp2_with fail
          go_ret
          exact ⟨rfl, Below.refl _ _⟩
        · have q4 : 8192 < a2 := by have := H.out; omega
          go_wp2_with fail
          go_ret
          exact ⟨rfl, Below.refl _ _⟩

theorem walk (a0 : Option Addr) (len0 cap0 : Nat) (z0 : List Int) (a1 : Option Addr) (len1 cap1 : Nat) (z1 : List Int) (a2 : Int) (w : World) (w0 : IsRow .i64 w a0 len0 cap0 z0) (w1 : IsRow .i64 w a1 len1 cap1 z1) (w2 : (Lit.int .i64 a2).wf = true) :
    Calls Try.prog 4 #[.slice a0 len0 cap0, .slice a1 len1 cap1, .int .i64 a2] w fun e w' => e = .returned (.bool true) ∧ Below w.heap.size w w' := by
  by_cases h : 4096 < len0 ∨ 4096 < len1 ∨ a2 < 1 ∨ 8192 < a2
  · exact walk_idle a0 len0 cap0 a1 len1 cap1 a2 w h
  · have m0 := walk_main a0 len0 cap0 (fun i => z0.getD i 0) a1 len1 cap1 (fun i => z1.getD i 0) a2.toNat w w0.asl w1.asl (by omega) (by omega) (by omega) (by omega)
    rw [show ((a2.toNat : Nat) : Int) = a2 from by omega] at m0
    exact m0

/-! ### THE ROW's STEP: WRITTEN OUT: LEAVE IT -/
set_option maxRecDepth 100000 in
theorem lifted (os : Os) (started : os.Started) (H : Type) (enc : TypeId × Value → H) :
    ReturnsInHanded {} Try.checked os 4 .any (Rows.fnCompareKeepsLongestCommonSubsequenceSpec.pre6 enc Try.prog Try.f4 Rows.fnCompareKeepsLongestCommonSubsequenceRow.domain false) (Rows.fnCompareKeepsLongestCommonSubsequenceSpec.post enc Try.prog Try.f4 false true false false) := by
  refine returnsInHanded_of_change (C := Try.checked) own started (by kernel_rfl) Try.func4
    (ChangeSpec.witness6 (enc := enc) (C := Try.checked) false ⟨#[], #[.slice none 0 0, .slice none 0 0, .int .i64 0], []⟩ 8 (by kernel_rfl) (by kernel_rfl) (by kernel_rfl) (by kernel_rfl)) ?_
  intro W base args ds gs before hval0 hW hcnd _
  have hval : ∀ (j : Nat) t v, Try.f4.params[j]? = some t → args[j]? = some v → Value.okWide Try.prog W .any base t v := hval0
  have hW' := hW
  obtain ⟨p, q, hA0, hV, rfl, hfz, hnd⟩ := hW
  have hA : DataW.TrodAll enc Try.prog W 0 (fun _ => true) true Try.f4.params.toList args.toList ds p := hA0
  rw [Try.params4] at hA hval
  obtain ⟨v0, vs0, d0, ds0, p0, q0, hargs, rfl, rfl, h0, r0⟩ := trodAll_cons hA
  obtain ⟨v1, vs1, d1, ds1, p1, q1, rfl, rfl, rfl, h1, r1⟩ := trodAll_cons r0
  obtain ⟨v2, vs2, d2, ds2, p2, q2, rfl, rfl, rfl, h2, r2⟩ := trodAll_cons r1
  obtain ⟨rfl, rfl, rfl⟩ := trodAll_nil r2
  obtain rfl : args = #[v0, v1, v2] := by cases args; simp_all
  obtain ⟨rfl, rfl⟩ := trodVars_none hV
  obtain ⟨a0, len0, cap0, rfl⟩ := okWide_slice Try.underlying22 (hval 0 22 v0 rfl rfl)
  have k0 := h0
  have lt0 : ∀ x ∈ p0, x.block < W.heap.size := by obtain ⟨m, hm⟩ := k0; exact DataW.trod_lt m _ _ _ hm
  obtain ⟨z0, w0⟩ : ∃ zs, IsRow .i64 W a0 len0 cap0 zs := by
    obtain ⟨fuel, hf⟩ := h0
    rcases open_ints Try.underlying22 Try.underlying3 (by kernel_rfl) hf with ⟨hcs, _⟩ | ⟨x, l, c, zs, hcs, _, hl, hm, hz, _, hcell, hwz⟩
    · simp [Value.cells] at hcs
      obtain ⟨rfl, rfl, rfl⟩ := hcs
      exact ⟨[], .inl ⟨rfl, rfl, rfl, rfl⟩⟩
    · simp [Value.cells] at hcs
      obtain ⟨rfl, rfl, rfl⟩ := hcs
      exact ⟨zs, .inr ⟨_, rfl, hl, hm, by simpa using hz, hcell, hwz⟩⟩
  obtain ⟨a1, len1, cap1, rfl⟩ := okWide_slice Try.underlying22 (hval 1 22 v1 rfl rfl)
  have k1 := h1
  have lt1 : ∀ x ∈ p1, x.block < W.heap.size := by obtain ⟨m, hm⟩ := k1; exact DataW.trod_lt m _ _ _ hm
  obtain ⟨z1, w1⟩ : ∃ zs, IsRow .i64 W a1 len1 cap1 zs := by
    obtain ⟨fuel, hf⟩ := h1
    rcases open_ints Try.underlying22 Try.underlying3 (by kernel_rfl) hf with ⟨hcs, _⟩ | ⟨x, l, c, zs, hcs, _, hl, hm, hz, _, hcell, hwz⟩
    · simp [Value.cells] at hcs
      obtain ⟨rfl, rfl, rfl⟩ := hcs
      exact ⟨[], .inl ⟨rfl, rfl, rfl, rfl⟩⟩
    · simp [Value.cells] at hcs
      obtain ⟨rfl, rfl, rfl⟩ := hcs
      exact ⟨zs, .inr ⟨_, rfl, hl, hm, by simpa using hz, hcell, hwz⟩⟩
  obtain ⟨a2, rfl, rfl, rfl, w2⟩ := open_int Try.underlying3 (hval 2 3 v2 rfl rfl) h2
  clear hA0 hval0
  refine (walk a0 len0 cap0 z0 a1 len1 cap1 z1 a2 W w0 w1 w2).mono fun e W' ⟨he, bel⟩ => ?_
  subst he
  exact ⟨_, rfl, _, _, _, [], _, [], hW', trodAll_mk1 (shut_bool Try.underlying4 _), (trodAll_cons_mk (Below.trod laidOut (by kernel_rfl) (of_decide_eq_true (by kernel_rfl)) k0 bel lt0) (trodAll_cons_mk (Below.trod laidOut (by kernel_rfl) (of_decide_eq_true (by kernel_rfl)) k1 bel lt1) (trodAll_cons_mk (shut_int Try.underlying3 w2) trodAll_mk0))), rfl, bel.frame _, fun h => by cases h⟩

theorem over : Rows.fnCompareKeepsLongestCommonSubsequenceRow.holds Try.pinned (OpenSpec.ofChange Rows.fnCompareKeepsLongestCommonSubsequenceSpec) :=
  OpenClaim.holds_of_wide 4 Try.f4 rfl rfl rfl rfl rfl rfl rfl ⟨rfl, rfl, rfl, rfl, rfl⟩ rfl rfl rfl rfl rfl (by kernel_rfl) Try.func4 (by kernel_rfl)
    (of_decide_eq_true (by kernel_rfl)) (by unfold Func.isWrapper; first | (rw [if_pos (by decide +kernel)]; kernel_rfl) | (rw [if_neg (by decide +kernel)]; exact ⟨rfl, rfl⟩))
    (fun os started H enc _ => lifted os started H enc)

/-- ████ THE STATEMENT ████ -/
theorem proved : Rows.FnCompareKeepsLongestCommonSubsequenceSaid := over
end Go.Proofs.Qxb6600330a.fnCompareKeepsLongestCommonSubsequence
