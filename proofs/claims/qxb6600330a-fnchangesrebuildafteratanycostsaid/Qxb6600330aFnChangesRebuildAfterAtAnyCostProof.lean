import Derived.Test.Qxb6600330aRows
import Derived.Test.Qxb6600330aZzChanges
import Derived.Test.Qxb6600330aStr2
import Derived.WalkKit
import Derived.ProofKit
import Derived.OpenShut
import Derived.ShutString
import Derived.ChangeOld
import Derived.Below
import Derived.Deep.Strs
namespace Go.Proofs.Qxb6600330a.fnChangesRebuildAfterAtAnyCost
open Go.ChangeShapes Go.WideShapes Go.ChangeAt Go.RowKit
open Go.ChangeMaps (open_string shut_string)
set_option linter.unusedVariables false

theorem own : ownKnob Try.prog.godebug = none := by kernel_rfl
theorem laidOut : laidOutB Try.prog = true := by kernel_rfl

set_option maxRecDepth 100000 in
set_option maxHeartbeats 2000000 in
theorem walk (a0 : Option Addr) (len0 cap0 : Nat) (T : Nat → ByteArray) (a1 : Option Addr) (len1 cap1 : Nat) (U : Nat → ByteArray) (a2 : Int) (w : World) (w0 : IsStrs w a0 len0 cap0 T) (w1 : IsStrs w a1 len1 cap1 U) (w2 : (Lit.int .i64 a2).wf = true) :
    Calls Try.prog 10 #[.slice a0 len0 cap0, .slice a1 len1 cap1, .int .i64 a2] w fun e w' => e = .returned (.bool true) ∧ Below w.heap.size w w' := by
  have C1 : Hid (IsStrs w a0 len0 cap0 T ∧ IsStrs w a1 len1 cap1 U) := ⟨w0, w1⟩
  have g0 := w0.2.1
  have g1 := w1.2.1
  clear w0 w1 w2
  go_enter Try.func10, Try.ntmps10
  go_wp2_with fail
  refine (bytes33 a0 a1 len0 cap0 len1 cap1 T U a2 w g0 g1 C1.out.1.1.sl C1.out.2.1.sl).mono ?_
  rintro e w' ⟨b, rfl, hww⟩
  have hww' := hww.symm
  clear hww
  subst hww'
  cases b with
  | false =>
    go_wp2_with fail
    go_ret
    exact ⟨rfl, Below.refl _ _⟩
  | true =>
    go_wp2_with fail
    refine (linesBytes_any a0 len0 cap0 T w g0 C1.out.1.1.sl).mono ?_
    rintro e w' ⟨r1, rfl, p1, p2, hww⟩
    have hww' := hww.symm
    clear hww
    subst hww'
    go_wp2_with fail
    refine (linesBytes_any a1 len1 cap1 U w g1 C1.out.2.1.sl).mono ?_
    rintro e w' ⟨r2, rfl, p3, p4, hww⟩
    have hww' := hww.symm
    clear hww
    subst hww'
    by_cases q : (1048576 : Int) < r1 + r2
    · go_wp2_with fail
      go_ret
      exact ⟨rfl, Below.refl _ _⟩
    · by_cases q1 : (4096 : Int) < len0
      · go_wp2_with fail
        go_ret
        exact ⟨rfl, Below.refl _ _⟩
      · by_cases q2 : (4096 : Int) < len1
        · go_wp2_with fail
          go_ret
          exact ⟨rfl, Below.refl _ _⟩
        · by_cases q3 : a2 < 1
          · go_wp2_with fail
            go_ret
            exact ⟨rfl, Below.refl _ _⟩
          · obtain ⟨mc, rfl⟩ : ∃ mc : Nat, a2 = (mc : Int) := ⟨a2.toNat, by omega⟩
            have hl0 : len0 ≤ 4096 := by omega
            have hl1 : len1 ≤ 4096 := by omega
            have hm : 1 ≤ mc := by omega
            have HS : Hid ((∀ i, i < len0 → (T i).size ≤ maxLen) ∧ ∀ i, i < len1 → (U i).size ≤ maxLen) := ⟨C1.out.1.2.2, C1.out.2.2.2⟩
            go_wp2_with fail
            refine (cloneStr_opt a0 len0 cap0 T _ hl0 C1.out.1.1).mono ?_
            rintro e w1 ⟨ao, rfl, ra, hw1⟩
            have C2 : Hid (AStr w1 a1 len1 cap1 U) := C1.out.2.1.later hw1
            have R1 : Hid (CStr w1 ao len0 T) := ra
            clear C1 ra
            go_wp2_with fail
            refine (cloneStr_opt a1 len1 cap1 U _ hl1 C2.out).mono ?_
            rintro e w2 ⟨bo, rfl, rb, hw2⟩
            have R2 : Hid (CStr w2 ao len0 T ∧ CStr w2 bo len1 U) := ⟨R1.out.later hw2, rb⟩
            clear C2 R1 rb
            go_wp2_with fail
            refine (zzchanges_any ao bo len0 len0 len1 len1 mc T U _ hl0 hl1 hm R2.out.1.sl R2.out.2.sl HS.out.1 HS.out.2).mono ?_
            rintro e w3 ⟨so, F, cs, g, R, D, rfl, hch, hw3, inj, hcmp, hg, hrun⟩
            obtain ⟨hok, hen, htot, hlen⟩ := RetC.script inj hg
            have R3 : Hid (CStr w3 ao len0 T ∧ CStr w3 bo len1 U ∧ ChSl w3 so F ∧ Plain.Ok T U len0 len1 F ∧ Plain.EndOk T U len0 len1 F) := ⟨R2.out.1.later hw3, R2.out.2.later hw3, hch, hok, hen⟩
            clear R2 hch hok hen htot inj hcmp hg hrun HS
            go_wp2_with fail
            refine (script_any ao bo so len0 len0 len1 len1 cs T U F _ hl0 hl1 R3.out.1.sl R3.out.2.1.sl R3.out.2.2.1 (by omega) R3.out.2.2.2.1 R3.out.2.2.2.2).mono ?_
            rintro e w4 ⟨rfl, hw4⟩
            have hbelow : Hid (Below w.heap.size w w4) := ((hw1.trans (hw2.mono hw1.size)).trans (hw3.mono (Nat.le_trans hw1.size hw2.size))).trans (hw4.mono (Nat.le_trans hw1.size (Nat.le_trans hw2.size hw3.size)))
            clear R3 hw1 hw2 hw3 hw4
            go_wp2_with fail
            go_ret
            exact ⟨rfl, hbelow.out⟩

/-! ### THE ROW's STEP -/
set_option maxRecDepth 100000 in
theorem lifted (os : Os) (started : os.Started) (H : Type) (enc : TypeId × Value → H) :
    ReturnsInHanded {} Try.checked os 10 .any (Rows.fnChangesRebuildAfterAtAnyCostSpec.pre6 enc Try.prog Try.f10 Rows.fnChangesRebuildAfterAtAnyCostRow.domain false) (Rows.fnChangesRebuildAfterAtAnyCostSpec.post enc Try.prog Try.f10 false true false false) := by
  refine returnsInHanded_of_change (C := Try.checked) own started (by kernel_rfl) Try.func10
    (ChangeSpec.witness6 (enc := enc) (C := Try.checked) false ⟨#[], #[.slice none 0 0, .slice none 0 0, .int .i64 0], []⟩ 8 (by kernel_rfl) (by kernel_rfl) (by kernel_rfl) (by kernel_rfl)) ?_
  intro W base args ds gs before hval0 hW hcnd _
  have hval : ∀ (j : Nat) t v, Try.f10.params[j]? = some t → args[j]? = some v → Value.okWide Try.prog W .any base t v := hval0
  have hW' := hW
  obtain ⟨p, q, hA0, hV, rfl, hfz, hnd⟩ := hW
  have hA : DataW.TrodAll enc Try.prog W 0 (fun _ => true) true Try.f10.params.toList args.toList ds p := hA0
  rw [show Try.f10.params = #[38, 38, 3] from by kernel_rfl] at hA hval
  obtain ⟨v0, vs0, d0, ds0, p0, q0, hargs, rfl, rfl, h0, r0⟩ := trodAll_cons hA
  obtain ⟨v1, vs1, d1, ds1, p1, q1, rfl, rfl, rfl, h1, r1⟩ := trodAll_cons r0
  obtain ⟨v2, vs2, d2, ds2, p2, q2, rfl, rfl, rfl, h2, r2⟩ := trodAll_cons r1
  obtain ⟨rfl, rfl, rfl⟩ := trodAll_nil r2
  obtain rfl : args = #[v0, v1, v2] := by cases args; simp_all
  obtain ⟨rfl, rfl⟩ := trodVars_none hV
  obtain ⟨a0, len0, cap0, rfl⟩ := okWide_slice Try.underlying38 (hval 0 38 v0 rfl rfl)
  have k0 := h0
  have lt0 : ∀ x ∈ p0, x.block < W.heap.size := by obtain ⟨m, hm⟩ := k0; exact DataW.trod_lt m _ _ _ hm
  obtain ⟨z0, w0⟩ : ∃ T, IsStrs W a0 len0 cap0 T := by
    obtain ⟨fuel, hf⟩ := h0
    rcases Go.Deep.open_strs Try.underlying38 Try.underlying9 (by kernel_rfl) hf with ⟨hcs, _⟩ | ⟨x, l, c, m, S, hcs, _, hl, hm, hmm, _, hcell⟩
    · simp [Value.cells] at hcs
      obtain ⟨rfl, rfl, rfl⟩ := hcs
      exact ⟨fun _ => ByteArray.empty, .inl ⟨rfl, rfl, rfl⟩, by omega, fun i hi => by omega⟩
    · simp [Value.cells] at hcs
      obtain ⟨rfl, rfl, rfl⟩ := hcs
      have hlm : len0 ≤ m := by rw [hmm]; split <;> omega
      exact ⟨S, isStrs_of_cells (by omega) (fun i hi => hcell i (by omega))⟩
  obtain ⟨a1, len1, cap1, rfl⟩ := okWide_slice Try.underlying38 (hval 1 38 v1 rfl rfl)
  have k1 := h1
  have lt1 : ∀ x ∈ p1, x.block < W.heap.size := by obtain ⟨m, hm⟩ := k1; exact DataW.trod_lt m _ _ _ hm
  obtain ⟨z1, w1⟩ : ∃ T, IsStrs W a1 len1 cap1 T := by
    obtain ⟨fuel, hf⟩ := h1
    rcases Go.Deep.open_strs Try.underlying38 Try.underlying9 (by kernel_rfl) hf with ⟨hcs, _⟩ | ⟨x, l, c, m, S, hcs, _, hl, hm, hmm, _, hcell⟩
    · simp [Value.cells] at hcs
      obtain ⟨rfl, rfl, rfl⟩ := hcs
      exact ⟨fun _ => ByteArray.empty, .inl ⟨rfl, rfl, rfl⟩, by omega, fun i hi => by omega⟩
    · simp [Value.cells] at hcs
      obtain ⟨rfl, rfl, rfl⟩ := hcs
      have hlm : len1 ≤ m := by rw [hmm]; split <;> omega
      exact ⟨S, isStrs_of_cells (by omega) (fun i hi => hcell i (by omega))⟩
  obtain ⟨a2, rfl, rfl, rfl, w2⟩ := open_int Try.underlying3 (hval 2 3 v2 rfl rfl) h2
  clear hA0 hval0
  refine (walk a0 len0 cap0 z0 a1 len1 cap1 z1 a2 W w0 w1 w2).mono fun e W' ⟨he, bel⟩ => ?_
  subst he
  exact ⟨_, rfl, _, _, _, [], _, [], hW', trodAll_mk1 (shut_bool Try.underlying4 _), (trodAll_cons_mk (Below.trod laidOut (by kernel_rfl) (of_decide_eq_true (by kernel_rfl)) k0 bel lt0) (trodAll_cons_mk (Below.trod laidOut (by kernel_rfl) (of_decide_eq_true (by kernel_rfl)) k1 bel lt1) (trodAll_cons_mk (shut_int Try.underlying3 w2) trodAll_mk0))), rfl, bel.frame _, fun h => by cases h⟩

theorem over : Rows.fnChangesRebuildAfterAtAnyCostRow.holds Try.pinned (OpenSpec.ofChange Rows.fnChangesRebuildAfterAtAnyCostSpec) :=
  OpenClaim.holds_of_wide 10 Try.f10 rfl rfl rfl rfl rfl rfl rfl ⟨rfl, rfl, rfl, rfl, rfl⟩ rfl rfl rfl rfl rfl (by kernel_rfl) Try.func10 (by kernel_rfl)
    (of_decide_eq_true (by kernel_rfl)) (by unfold Func.isWrapper; first | (rw [if_pos (by decide +kernel)]; kernel_rfl) | (rw [if_neg (by decide +kernel)]; exact ⟨rfl, rfl⟩))
    (fun os started H enc _ => lifted os started H enc)

/-- ████ THE STATEMENT ████ -/
theorem proved : Rows.FnChangesRebuildAfterAtAnyCostSaid := over
end Go.Proofs.Qxb6600330a.fnChangesRebuildAfterAtAnyCost
