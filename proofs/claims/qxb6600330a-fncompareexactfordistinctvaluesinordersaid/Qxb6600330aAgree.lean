import Derived.Test.Qxb6600330aLcsInt
import Derived.Test.Qxb6600330aCmp
namespace Go.Proofs.Qxb6600330a
open Go.RowKit
set_option linter.unusedVariables false

namespace Plain
theorem kept_skip (A : Nat → Int) {R : Nat → Bool} {i N : Nat} (h : i < N) (hR : R i = true) : kept A R i (N - i) = kept A R (i + 1) (N - (i + 1)) := by
  have hn : kept A R i 1 = [] := by
    refine kept_none A fun j h1 h2 => ?_
    have e : j = i := by omega
    rw [e]; exact hR
  rw [show N - i = 1 + (N - (i + 1)) from by omega, kept_append, hn]
  rfl
theorem kept_take (A : Nat → Int) {R : Nat → Bool} {i N : Nat} (h : i < N) (hR : R i = false) : kept A R i (N - i) = A i :: kept A R (i + 1) (N - (i + 1)) := by
  rw [show N - i = 1 + (N - (i + 1)) from by omega, kept_append, kept_one A hR]
  rfl
theorem kept_end (A : Nat → Int) (R : Nat → Bool) {i N : Nat} (h : N ≤ i) : kept A R i (N - i) = [] := by
  rw [show N - i = 0 from by omega]; rfl
end Plain

set_option maxRecDepth 100000 in
set_option maxHeartbeats 2000000 in
theorem keptAgree_any (ao bo : Option Addr) (br bad N c0 M c1 : Nat) (A B : Nat → Int) (R D : Nat → Bool) (w : World) (hN : N ≤ 4096) (hM : M ≤ 4096) (ha : IntSl w ao N A) (hb : IntSl w bo M B) (hr : w.rowIs br 4 N (fun i => .bool (R i))) (hd : w.rowIs bad 4 M (fun j => .bool (D j))) (hs : Plain.kept A R 0 N = Plain.kept B D 0 M) :
    Calls Try.prog 16 #[.slice ao N c0, .slice bo M c1, .slice (some ⟨br, 0, none⟩) N N, .slice (some ⟨bad, 0, none⟩) M M] w fun e w' => e = .returned (.tuple #[.bool true, .int .i64 (((Plain.kept A R 0 N).length : Nat) : Int)]) ∧ Below w.heap.size w w' := by
  obtain ⟨tot, et⟩ : ∃ tot, tot = (Plain.kept A R 0 N).length := ⟨_, rfl⟩
  have htot : tot ≤ N := by
    rw [et]; unfold Plain.kept
    rw [List.length_map]
    exact Nat.le_trans (List.length_filter_le _ _) (by simp)
  rw [← et]
  have HA : Hid (IntSl w ao N A ∧ IntSl w bo M B ∧ w.rowIs br 4 N (fun i => .bool (R i)) ∧ w.rowIs bad 4 M (fun j => .bool (D j))) := ⟨ha, hb, hr, hd⟩
  have HS : Hid (Plain.kept A R 0 N = Plain.kept B D 0 M ∧ tot = (Plain.kept A R 0 N).length) := ⟨hs, et⟩
  clear ha hb hr hd hs et
  have z1 : ((N : Int) != (N : Int)) = false := by simp
  have z2 : ((M : Int) != (M : Int)) = false := by simp
  go_enter Try.func16, Try.ntmps16
  go_wp2_with fail
  clear z1 z2
  go_loopw [10, 11, 12] (fun v10 v11 v12 wr => ∃ i j c : Nat, i ≤ N ∧ j ≤ M ∧ c ≤ tot ∧ v10 = .int .i64 (i : Int) ∧ v11 = .int .i64 (j : Int) ∧ v12 = .int .i64 (c : Int) ∧ Hid (Plain.kept A R i (N - i) = Plain.kept B D j (M - j) ∧ c + (Plain.kept A R i (N - i)).length = tot ∧ Below w.heap.size w wr)) (fun v10 v11 v12 wr => N - (intOf v10).toNat + (M - (intOf v11).toNat))
  case atStart => exact ⟨0, 0, 0, by omega, by omega, by omega, rfl, rfl, rfl, HS.out.1, by have := HS.out.2; simp; omega, Below.refl _ _⟩
  case round =>
    obtain ⟨i, j, c, hi, hj, hc, rfl, rfl, rfl, hh⟩ := hrel
    by_cases q1 : (i : Int) < N
    · have k1 := cell_later hh.out.2.2 (HA.out.2.2.1.cell (i := i) (by omega))
      cases hRi : R i with
      | true =>
        have HRI : Hid (R i = true) := hRi
        rw [hRi] at k1
        clear hRi
        go_wp2
        go_roundw
        case rel =>
          have e := Plain.kept_skip A (show i < N by omega) HRI.out
          refine ⟨i + 1, j, c, by omega, hj, hc, by go_num, rfl, rfl, ?_, ?_, hh.out.2.2⟩
          · rw [← e]; exact hh.out.1
          · rw [← e]; exact hh.out.2.1
        case measure => simp [intOf]; omega
      | false =>
        have HRI : Hid (R i = false) := hRi
        rw [hRi] at k1
        clear hRi
        have ea := Plain.kept_take A (show i < N by omega) HRI.out
        by_cases q2 : (j : Int) < M
        · have k2 := cell_later hh.out.2.2 (HA.out.2.2.2.cell (i := j) (by omega))
          cases hDj : D j with
          | true =>
            have HDJ : Hid (D j = true) := hDj
            rw [hDj] at k2
            have EA : Hid True := trivial
            clear hDj ea
            go_wp2
            go_roundw
            case rel =>
              have e := Plain.kept_skip B (show j < M by omega) HDJ.out
              refine ⟨i, j + 1, c, by omega, by omega, hc, rfl, by go_num, rfl, ?_, hh.out.2.1, hh.out.2.2⟩
              rw [← e]; exact hh.out.1
            case measure => simp [intOf]; omega
          | false =>
            have HDJ : Hid (D j = false) := hDj
            rw [hDj] at k2
            have eb := Plain.kept_take B (show j < M by omega) HDJ.out
            have EQ : Hid (A i = B j ∧ Plain.kept A R (i + 1) (N - (i + 1)) = Plain.kept B D (j + 1) (M - (j + 1)) ∧ c + 1 + (Plain.kept A R (i + 1) (N - (i + 1))).length = tot) := by
              have h1 := hh.out.1
              have h2 := hh.out.2.1
              rw [ea, eb] at h1
              rw [ea] at h2
              simp only [List.cons.injEq] at h1
              rw [List.length_cons] at h2
              exact ⟨h1.1, h1.2, by omega⟩
            clear hDj ea eb
            obtain ⟨ba, oa, rfl, ra⟩ := HA.out.1 (by omega)
            obtain ⟨bb, ob, rfl, rb⟩ := HA.out.2.1 (by omega)
            have ka : wr.cell? ⟨ba, oa + i, none⟩ = some (.int .i64 (A i)) := cell_later hh.out.2.2 (ra i (by omega))
            have kb : wr.cell? ⟨bb, ob + j, none⟩ = some (.int .i64 (B j)) := cell_later hh.out.2.2 (rb j (by omega))
            have dd : (A i != B j) = false := by have := EQ.out.1; simpa using this
            have d1 : ((i : Int) == (N : Int)) = false := by simp; omega
            have d2 : ((j : Int) == (M : Int)) = false := by simp; omega
            have hc1 : c + 1 ≤ tot := by have := EQ.out.2.2; omega
            clear ra rb
            go_wp2_with fail
            go_quiet (fail)
            go_wp2
            go_roundw
            case rel => exact ⟨i + 1, j + 1, c + 1, by omega, by omega, hc1, by go_num, by go_num, by go_num, EQ.out.2.1, EQ.out.2.2, below_drewN hh.out.2.2 _⟩
            case measure => simp [intOf]; omega
        · exfalso
          have h1 := hh.out.1
          rw [ea, Plain.kept_end B D (by omega)] at h1
          cases h1
    · by_cases q2 : (j : Int) < M
      · have k2 := cell_later hh.out.2.2 (HA.out.2.2.2.cell (i := j) (by omega))
        cases hDj : D j with
        | true =>
          have HDJ : Hid (D j = true) := hDj
          rw [hDj] at k2
          clear hDj
          go_wp2
          go_roundw
          case rel =>
            have e := Plain.kept_skip B (show j < M by omega) HDJ.out
            refine ⟨i, j + 1, c, by omega, by omega, hc, rfl, by go_num, rfl, ?_, hh.out.2.1, hh.out.2.2⟩
            rw [← e]; exact hh.out.1
          case measure => simp [intOf]; omega
        | false =>
          exfalso
          have h1 := hh.out.1
          rw [Plain.kept_end A R (by omega), Plain.kept_take B (show j < M by omega) hDj] at h1
          cases h1
      · have e : c = tot := by
          have h2 := hh.out.2.1
          rw [Plain.kept_end A R (by omega)] at h2
          simpa using h2
        have HE : Hid (c = tot) := e
        clear e
        go_wp2
        go_ret2
        refine ⟨?_, hh.out.2.2⟩
        rw [← HE.out]
        rfl

end Go.Proofs.Qxb6600330a
