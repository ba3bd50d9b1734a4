import Derived.Test.Qxb6600330aAnchors
import Derived.Test.Qxb6600330aDistStr
namespace Go.Proofs.Qxb6600330a
open Go.RowKit
set_option linter.unusedVariables false

set_option maxRecDepth 100000 in
set_option maxHeartbeats 4000000 in
theorem anchorsStr_any (ao bo : Option Addr) (N c0 M c1 : Nat) (T U : Nat → ByteArray) (w : World) (hN : N ≤ 4096) (hM : M ≤ 4096) (ha : StrSl w ao N T) (hb : StrSl w bo M U) :
    Calls Try.prog 26 #[.slice ao N c0, .slice bo M c1] w (RetA (cods T) (cods U) N M w) := by
  obtain ⟨i0, hi, hz0, hz1, hz2⟩ := info_parts info3
  have HA : Hid (StrSl w ao N T) := ha
  have HB : Hid (StrSl w bo M U) := hb
  clear ha hb
  have g0 : (N : Int) ≤ 4096 := by omega
  have g1 : (M : Int) ≤ 4096 := by omega
  go_enter Try.func26, Try.ntmps26
  go_wp2_with fail
  refine (distinctStr_any ao N c0 T _ hN HA.out).mono ?_
  rintro e w1 ⟨b1, rfl, hd1, hw1⟩
  have W1 : Hid (Below w.heap.size w w1) := hw1
  clear hw1
  cases b1 with
  | false =>
    clear hd1
    go_wp2_with fail
    go_ret3
    exact .no rfl W1.out
  | true =>
    clear hd1
    go_wp2_with fail
    refine (distinctStr_any bo M c1 U _ hM (HB.out.kept W1.out)).mono ?_
    rintro e w2 ⟨b2, rfl, hd2, hw2⟩
    have W2 : Hid (Below w.heap.size w w2) := W1.out.trans (hw2.mono W1.out.size)
    clear hw2 W1
    cases b2 with
    | false =>
      clear hd2
      go_wp2_with fail
      go_ret3
      exact .no rfl W2.out
    | true =>
      have D2 : Hid (Dist (cods U) M) := hd2 rfl
      clear hd2
      go_wp2_with fail
      go_loopw [7, 8, 9, 10] (fun v7 v8 v9 v10 wr => ∃ (i : Nat) (last : Int) (P : List (Nat × Nat)), i ≤ N ∧ v9 = .int .i64 last ∧ v10 = .int .i64 (i : Int) ∧ Hid (Two w.heap.size wr v7 v8 P ∧ Plain.Anch (cods T) (cods U) M i last P ∧ Below w.heap.size w wr)) (fun _ _ _ v wr => N - (intOf v).toNat)
      case atStart => exact ⟨0, -1, [], by omega, rfl, rfl, Two.nil _ _, Plain.anch_start, W2.out⟩
      case round =>
        obtain ⟨i, last, P, hiN, rfl, rfl, hr⟩ := hrel
        have hi3 : (i : Int) ≤ 4096 := by omega
        by_cases q1 : (i : Int) < N
        · obtain ⟨ba, oa, rfl, hra⟩ := HA.out (by omega)
          have HRA : Hid (∀ i, i < N → w.cell? ⟨ba, oa + i, none⟩ = some (.string (T i))) := hra
          clear hra HA
          obtain ⟨wo, ewo⟩ : ∃ wo : World, wo = wr := ⟨_, rfl⟩
          have HO : Hid (wo = wr) := ewo
          clear ewo
          go_wp2_with fail
          go_loopw [11, 12] (fun v11 v12 wr => ∃ (j : Nat) (p : Int), j ≤ M ∧ v11 = .int .i64 p ∧ v12 = .int .i64 (j : Int) ∧ Hid (Pos (cods T) (cods U) i M j p ∧ Two w.heap.size wr u7 u8 P ∧ Below w.heap.size w wr)) (fun _ v wr => M - (intOf v).toNat)
          case atStart => exact ⟨0, -1, by omega, rfl, rfl, .inl ⟨rfl, fun t ht => by omega⟩, by have := HO.out; rw [← this]; rw [this]; exact ⟨hr.out.1, hr.out.2.2⟩⟩
          case round =>
            obtain ⟨j, p, hj, rfl, rfl, h2⟩ := hrel
            have hj3 : (j : Int) ≤ 4096 := by omega
            by_cases qp : p < 0
            · by_cases q2 : (j : Int) < (M : Int)
              · obtain ⟨bb, ob, rfl, hrb⟩ := HB.out (by omega)
                have k1 : wr.cell? ⟨ba, oa + i, none⟩ = some (.string (T i)) := cell_later h2.out.2.2 (HRA.out i (by omega))
                have k2 : wr.cell? ⟨bb, ob + j, none⟩ = some (.string (U j)) := cell_later h2.out.2.2 (hrb j (by omega))
                clear hrb HB
                by_cases q3 : T i = U j
                · have d3 : ((T i).toList == (U j).toList) = true := str_true q3
                  have Q3 : Hid (cods T i = cods U j) := cods_eq q3
                  clear q3
                  go_wp2_with fail
                  go_quiet (fail)
                  go_wp2
                  go_roundw
                  case rel => exact ⟨j + 1, (j : Int), by omega, rfl, by go_num, .inr ⟨j, rfl, by omega, Q3.out⟩, h2.out.2.1.drewN _, below_drewN h2.out.2.2 _⟩
                  case measure => simp [intOf]; omega
                · have d3 : ((T i).toList == (U j).toList) = false := str_false q3
                  have Q3 : Hid (¬ cods T i = cods U j) := cods_ne q3
                  clear q3
                  go_wp2_with fail
                  go_quiet (fail)
                  go_wp2
                  go_roundw
                  case rel =>
                    refine ⟨j + 1, p, by omega, rfl, by go_num, ?_, h2.out.2.1.drewN _, below_drewN h2.out.2.2 _⟩
                    rcases h2.out.1 with ⟨e, hno⟩ | ⟨q, e, _⟩
                    · refine .inl ⟨e, fun t ht => ?_⟩
                      by_cases et : t = j
                      · subst et; exact Q3.out
                      · exact hno t (by omega)
                    · exfalso; omega
                  case measure => simp [intOf]; omega
              · have R : Hid (Two w.heap.size wr u7 u8 P ∧ Plain.Anch (cods T) (cods U) M (i + 1) last P ∧ Below w.heap.size w wr) := by
                  refine ⟨h2.out.2.1, ?_, h2.out.2.2⟩
                  rcases h2.out.1 with ⟨e, hno⟩ | ⟨q, e, _⟩
                  · exact Plain.anch_skip hr.out.2.1 (fun t ht => hno t (by omega))
                  · exfalso; omega
                clear h2 hr
                have qp' : ¬ 0 ≤ p := by omega
                go_wp2
                go_roundw
                case rel => exact ⟨i + 1, last, P, by omega, rfl, by go_num, R.out⟩
                case measure => simp [intOf]; omega
            · have E : Hid (∃ q : Nat, p = q ∧ q < M ∧ cods T i = cods U q) := by
                rcases h2.out.1 with ⟨e, hno⟩ | h
                · exfalso; omega
                · exact h
              obtain ⟨q, rfl, hqM, hq⟩ := E.out
              have EQ : Hid (q < M ∧ cods T i = cods U q) := ⟨hqM, hq⟩
              clear E hq
              have R : Hid (Two w.heap.size wr u7 u8 P ∧ Plain.Anch (cods T) (cods U) M i last P ∧ Below w.heap.size w wr) := ⟨h2.out.2.1, hr.out.2.1, h2.out.2.2⟩
              clear h2 hr
              by_cases q4 : (q : Int) ≤ last
              · by_cases q2 : (j : Int) < (M : Int)
                · go_wp2
                  go_ret3
                  exact .no rfl R.out.2.2
                · go_wp2
                  go_ret3
                  exact .no rfl R.out.2.2
              · have hPl : P.length ≤ 4096 := Nat.le_trans R.out.2.1.len (by omega)
                have hsz := R.out.2.2.size
                by_cases q2 : (j : Int) < (M : Int)
                · go_wp2_with (first
                    | (at_builtin; refine wpList_append_own_at _ rfl _ _ 22 rfl w.heap.size 3 i0 (.int .i64 0) 1 8 Try.underlying22 hi hz0 hz1 hz2 rfl (by decide) _ _ _ rfl (R.out.1.1.alloc _) ⟨wr.heap.size, 0, none⟩ 1 1 [.int .i64 (i : Int)] rfl rfl (cell_one_new _ _ _) ?c2 ?c3 ?c4 ?c5 ?_)
                    | go_in)
                  case c2 => first | rfl | (intro u hu; simp at hu; subst hu; rfl)
                  case c3 => unfold maxLen; omega
                  case c4 => omega
                  case c5 => first | omega | (simp; omega)
                  intro v1 w1 hown1 hgrow1 _ hat1
                  have TT1 := two_first R.out.1.1 R.out.1.2.1 R.out.1.2.2 R.out.2.2 hsz hgrow1 hat1
                  have TX : Hid (w1.ownsRow w.heap.size 3 1 v1 (P.length + 1) (fsts P ++ [.int .i64 (i : Int)]) ∧ w1.ownsRow w.heap.size 3 1 u8 P.length (snds P) ∧ Apart v1 u8 ∧ Below w.heap.size w w1) := ⟨hown1, TT1.1, TT1.2.1, TT1.2.2.1⟩
                  have hs1 := TT1.2.2.2
                  have AN : Hid (Plain.Anch (cods T) (cods U) M (i + 1) q (P ++ [(i, q)])) := Plain.anch_add R.out.2.1 EQ.out.1 EQ.out.2 (by omega) D2.out
                  clear hown1 hgrow1 hat1 TT1 R
                  go_wp2_with (first
                    | (at_builtin; refine wpList_append_own_at _ rfl _ _ 22 rfl w.heap.size 3 i0 (.int .i64 0) 1 8 Try.underlying22 hi hz0 hz1 hz2 rfl (by decide) _ _ _ rfl (TX.out.2.1.alloc _) ⟨w1.heap.size, 0, none⟩ 1 1 [.int .i64 (q : Int)] rfl rfl (cell_one_new _ _ _) ?c2 ?c3 ?c4 ?c5 ?_)
                    | go_in)
                  case c2 => first | rfl | (intro u hu; simp at hu; subst hu; rfl)
                  case c3 => unfold maxLen; omega
                  case c4 => omega
                  case c5 => first | omega | (simp; omega)
                  intro v2 w3 hown2 hgrow2 _ hat2
                  have T2 := two_second TX.out.1 TX.out.2.1 TX.out.2.2.1 TX.out.2.2.2 hs1 hgrow2 hat2
                  have TT : Hid (Two w.heap.size w3 v1 v2 (P ++ [(i, q)]) ∧ Below w.heap.size w w3) := by
                    refine ⟨⟨?_, ?_, T2.2.1⟩, T2.2.2.1⟩
                    · have := T2.1
                      rw [fsts, List.map_append, List.length_append]
                      exact this
                    · have := hown2
                      rw [snds, List.map_append, List.length_append]
                      exact this
                  clear hown2 hgrow2 hat2 T2 TX
                  go_wp2
                  go_roundw
                  case rel => exact ⟨i + 1, q, P ++ [(i, q)], by omega, rfl, by go_num, TT.out.1, AN.out, TT.out.2⟩
                  case measure => simp [intOf]; omega
                · go_wp2_with (first
                    | (at_builtin; refine wpList_append_own_at _ rfl _ _ 22 rfl w.heap.size 3 i0 (.int .i64 0) 1 8 Try.underlying22 hi hz0 hz1 hz2 rfl (by decide) _ _ _ rfl (R.out.1.1.alloc _) ⟨wr.heap.size, 0, none⟩ 1 1 [.int .i64 (i : Int)] rfl rfl (cell_one_new _ _ _) ?c2 ?c3 ?c4 ?c5 ?_)
                    | go_in)
                  case c2 => first | rfl | (intro u hu; simp at hu; subst hu; rfl)
                  case c3 => unfold maxLen; omega
                  case c4 => omega
                  case c5 => first | omega | (simp; omega)
                  intro v1 w1 hown1 hgrow1 _ hat1
                  have TT1 := two_first R.out.1.1 R.out.1.2.1 R.out.1.2.2 R.out.2.2 hsz hgrow1 hat1
                  have TX : Hid (w1.ownsRow w.heap.size 3 1 v1 (P.length + 1) (fsts P ++ [.int .i64 (i : Int)]) ∧ w1.ownsRow w.heap.size 3 1 u8 P.length (snds P) ∧ Apart v1 u8 ∧ Below w.heap.size w w1) := ⟨hown1, TT1.1, TT1.2.1, TT1.2.2.1⟩
                  have hs1 := TT1.2.2.2
                  have AN : Hid (Plain.Anch (cods T) (cods U) M (i + 1) q (P ++ [(i, q)])) := Plain.anch_add R.out.2.1 EQ.out.1 EQ.out.2 (by omega) D2.out
                  clear hown1 hgrow1 hat1 TT1 R
                  go_wp2_with (first
                    | (at_builtin; refine wpList_append_own_at _ rfl _ _ 22 rfl w.heap.size 3 i0 (.int .i64 0) 1 8 Try.underlying22 hi hz0 hz1 hz2 rfl (by decide) _ _ _ rfl (TX.out.2.1.alloc _) ⟨w1.heap.size, 0, none⟩ 1 1 [.int .i64 (q : Int)] rfl rfl (cell_one_new _ _ _) ?c2 ?c3 ?c4 ?c5 ?_)
                    | go_in)
                  case c2 => first | rfl | (intro u hu; simp at hu; subst hu; rfl)
                  case c3 => unfold maxLen; omega
                  case c4 => omega
                  case c5 => first | omega | (simp; omega)
                  intro v2 w3 hown2 hgrow2 _ hat2
                  have T2 := two_second TX.out.1 TX.out.2.1 TX.out.2.2.1 TX.out.2.2.2 hs1 hgrow2 hat2
                  have TT : Hid (Two w.heap.size w3 v1 v2 (P ++ [(i, q)]) ∧ Below w.heap.size w w3) := by
                    refine ⟨⟨?_, ?_, T2.2.1⟩, T2.2.2.1⟩
                    · have := T2.1
                      rw [fsts, List.map_append, List.length_append]
                      exact this
                    · have := hown2
                      rw [snds, List.map_append, List.length_append]
                      exact this
                  clear hown2 hgrow2 hat2 T2 TX
                  go_wp2
                  go_roundw
                  case rel => exact ⟨i + 1, q, P ++ [(i, q)], by omega, rfl, by go_num, TT.out.1, AN.out, TT.out.2⟩
                  case measure => simp [intOf]; omega
        · have e : i = N := by omega
          subst e
          go_wp2
          go_ret3
          exact .yes rfl hr.out.2.2 hr.out.1 hr.out.2.1

end Go.Proofs.Qxb6600330a
