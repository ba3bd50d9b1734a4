import Derived.Test.Qxb6600330aGather
namespace Go.Proofs.Qxb6600330a
open Go.RowKit
set_option linter.unusedVariables false

theorem Plain.gl_length (p q : Nat → Nat) : ∀ k, (Plain.gl p q k).length ≤ k
  | 0 => Nat.le_refl _
  | k + 1 => by
    have := Plain.gl_length p q k
    show (Plain.gl p q k ++ Plain.gapOf _ _ _ _).length ≤ _
    rw [List.length_append]
    have : (Plain.gapOf (Plain.sI p k) (p k) (Plain.sI q k) (q k)).length ≤ 1 := by
      unfold Plain.gapOf
      split
      · exact Nat.le_refl _
      · exact Nat.zero_le _
    omega
theorem Plain.gl_add {p q : Nat → Nat} {k : Nat} (h : Plain.sI p k < p k ∨ Plain.sI q k < q k) : Plain.gl p q (k + 1) = Plain.gl p q k ++ [⟨Plain.sI p k, p k - Plain.sI p k, Plain.sI q k, q k - Plain.sI q k⟩] := by
  show Plain.gl p q k ++ Plain.gapOf _ _ _ _ = _
  unfold Plain.gapOf
  rw [if_pos h]
theorem Plain.gl_no {p q : Nat → Nat} {k : Nat} (h : ¬ (Plain.sI p k < p k ∨ Plain.sI q k < q k)) : Plain.gl p q (k + 1) = Plain.gl p q k := by
  show Plain.gl p q k ++ Plain.gapOf _ _ _ _ = _
  unfold Plain.gapOf
  rw [if_neg h, List.append_nil]

/-- What gapsModel answers. -/
def RetG (w : World) (F : List Plain.Ch) (e : Ending) (w' : World) : Prop := ∃ so cs, e = .returned (.slice so F.length cs) ∧ ChSl w' so F ∧ Below w.heap.size w w'

set_option maxRecDepth 100000 in
set_option maxHeartbeats 4000000 in
theorem gapsModel_any (ao bo : Option Addr) (n c d N M : Nat) (p q : Nat → Nat) (w : World) (hN : N ≤ 4096) (hM : M ≤ 4096) (hn : n ≤ 4096) (ha : IntSl w ao n (fun k => (p k : Int))) (hb : IntSl w bo n (fun k => (q k : Int)))
    (hp : ∀ k, k ≤ n → Plain.sI p k ≤ p k ∧ p k ≤ 4096 ∧ Plain.sI q k ≤ q k ∧ q k ≤ 4096) (hpn : p n = N) (hqn : q n = M) :
    Calls Try.prog 29 #[.int .i64 (N : Int), .int .i64 (M : Int), .slice ao n c, .slice bo n d] w (RetG w (Plain.gl p q (n + 1))) := by
  obtain ⟨i0, ii, hz0, hz1, hz2⟩ := info_parts info47
  have HA : Hid (IntSl w ao n (fun k => (p k : Int)) ∧ IntSl w bo n (fun k => (q k : Int)) ∧ (∀ k, k ≤ n → Plain.sI p k ≤ p k ∧ p k ≤ 4096 ∧ Plain.sI q k ≤ q k ∧ q k ≤ 4096) ∧ p n = N ∧ q n = M) := ⟨ha, hb, hp, hpn, hqn⟩
  clear ha hb hp hpn hqn
  have g0 : (N : Int) ≤ 4096 := by omega
  have g1 : (M : Int) ≤ 4096 := by omega
  have g2 : (n : Int) ≤ 4096 := by omega
  go_enter Try.func29, Try.ntmps29
  go_wp2_with fail
  go_loopw [9, 10, 11, 12] (fun v9 v10 v11 v12 wr => ∃ (k i j : Nat) (F : List Plain.Ch) (so : Option Addr) (cs : Nat), k ≤ n + 1 ∧ v9 = .slice so F.length cs ∧ v10 = .int .i64 (i : Int) ∧ v11 = .int .i64 (j : Int) ∧ v12 = .int .i64 (k : Int) ∧ Hid (i = Plain.sI p k ∧ j = Plain.sI q k ∧ F = Plain.gl p q k ∧ wr.ownsRow w.heap.size 47 4 (.slice so F.length cs) F.length (flat F) ∧ Below w.heap.size w wr)) (fun _ _ _ v wr => n + 1 - (intOf v).toNat)
  case atStart => exact ⟨0, 0, 0, [], none, 0, by omega, rfl, rfl, rfl, rfl, rfl, rfl, rfl, World.ownsRow_nil _ _ _ _, Below.refl _ _⟩
  case round =>
    obtain ⟨k, i, j, F, so, cs, hk, rfl, rfl, rfl, rfl, hr⟩ := hrel
    have hFl : F.length ≤ k := by rw [hr.out.2.2.1]; exact Plain.gl_length p q k
    have hbs := hr.out.2.2.2.2.size
    by_cases q1 : (k : Int) ≤ (n : Int)
    · obtain ⟨b1, b2, b3, b4⟩ := HA.out.2.2.1 k (by omega)
      rw [← hr.out.1] at b1
      rw [← hr.out.2.1] at b3
      obtain ⟨x, ex⟩ : ∃ x, x = p k := ⟨_, rfl⟩
      obtain ⟨y, ey⟩ : ∃ y, y = q k := ⟨_, rfl⟩
      rw [← ex] at b1 b2
      rw [← ey] at b3 b4
      have E : Hid (x = p k ∧ y = q k) := ⟨ex, ey⟩
      clear ex ey
      by_cases q2 : (k : Int) < (n : Int)
      · obtain ⟨ba, oa, rfl, ra⟩ := HA.out.1 (by omega)
        obtain ⟨bb, ob, rfl, rb⟩ := HA.out.2.1 (by omega)
        have c1 : wr.cell? ⟨ba, oa + k, none⟩ = some (.int .i64 (x : Int)) := by rw [E.out.1]; exact cell_later hr.out.2.2.2.2 (ra k (by omega))
        have c2 : wr.cell? ⟨bb, ob + k, none⟩ = some (.int .i64 (y : Int)) := by rw [E.out.2]; exact cell_later hr.out.2.2.2.2 (rb k (by omega))
        clear ra rb
        by_cases t1 : (0 : Int) < (x : Int) - i
        · have GA : Hid (Plain.gl p q (k + 1) = F ++ [⟨i, x - i, j, y - j⟩]) := by
            have h1 := hr.out
            have h2 := E.out
            rw [h1.2.2.1, h1.1, h1.2.1, h2.1, h2.2]
            exact Plain.gl_add (by rw [← h1.1, ← h1.2.1, ← h2.1, ← h2.2]; omega)
          go_wp2_with (first
            | (at_builtin; refine wpList_append_own_at _ rfl _ _ 43 rfl w.heap.size 47 i0 _ 4 32 Try.underlying43 ii hz0 hz1 hz2 rfl (by decide) _ _ _ rfl (hr.out.2.2.2.1.alloc _) _ 1 1 [.int .i64 (i : Int), .int .i64 ((x : Int) - i), .int .i64 (j : Int), .int .i64 ((y : Int) - j)] rfl rfl ?m01 ?m02 ?m03 ?m04 ?m05 ?_)
            | go_in)
          try (case m01 =>
            intro q u hu
            rcases q with _ | _ | _ | _ | q <;> simp at hu <;> subst hu <;> simp [Addr.add])
          case m02 => first | exact ⟨rfl, rfl, rfl, rfl⟩ | (intro u hu; simp at hu; rcases hu with rfl | rfl | rfl | rfl <;> rfl)
          case m03 => unfold maxLen; omega
          case m04 => omega
          case m05 => first | omega | (simp; omega)
          intro v1 w1 hown hgrow hnil hat
          have HB : Hid (Below w.heap.size w w1) := (hr.out.2.2.2.2.alloc hbs _).grown hgrow (by simp; omega) (fun t ht => (hr.out.2.2.2.1.lt t ht).1)
          have ef : flat (F ++ [⟨i, x - i, j, y - j⟩]) = flat F ++ [.int .i64 (i : Int), .int .i64 ((x : Int) - i), .int .i64 (j : Int), .int .i64 ((y : Int) - j)] := by
            rw [flat_snoc, show (x : Int) - i = ((x - i : Nat) : Int) from by omega, show (y : Int) - j = ((y - j : Nat) : Int) from by omega]
            rfl
          rw [← ef] at hown
          have HV : Hid (w1.ownsRow w.heap.size 47 4 v1 (F.length + 1) (flat (F ++ [⟨i, x - i, j, y - j⟩]))) := hown
          have hv : ∃ so' cs', v1 = .slice so' (F.length + 1) cs' := by
            rcases hown.2 with ⟨_, h0⟩ | ⟨g, cap, cur, e, _⟩
            · omega
            · exact ⟨_, cap, e⟩
          obtain ⟨so', cs', rfl⟩ := hv
          clear hown hgrow hnil hat ef
          go_wp2
          go_roundw
          case rel =>
            refine ⟨k + 1, x + 1, y + 1, F ++ [⟨i, x - i, j, y - j⟩], so', cs', by omega, by rw [List.length_append]; rfl, by go_num, by go_num, by go_num, ?_, ?_, GA.out.symm, ?_, HB.out⟩
            · rw [Plain.sI_next, E.out.1]
            · rw [Plain.sI_next, E.out.2]
            · rw [List.length_append]; exact HV.out
          case measure => simp [intOf]; omega
        · by_cases t2 : (0 : Int) < (y : Int) - j
          · have GA : Hid (Plain.gl p q (k + 1) = F ++ [⟨i, x - i, j, y - j⟩]) := by
              have h1 := hr.out
              have h2 := E.out
              rw [h1.2.2.1, h1.1, h1.2.1, h2.1, h2.2]
              exact Plain.gl_add (by rw [← h1.1, ← h1.2.1, ← h2.1, ← h2.2]; omega)
            go_wp2_with (first
              | (at_builtin; refine wpList_append_own_at _ rfl _ _ 43 rfl w.heap.size 47 i0 _ 4 32 Try.underlying43 ii hz0 hz1 hz2 rfl (by decide) _ _ _ rfl (hr.out.2.2.2.1.alloc _) _ 1 1 [.int .i64 (i : Int), .int .i64 ((x : Int) - i), .int .i64 (j : Int), .int .i64 ((y : Int) - j)] rfl rfl ?m11 ?m12 ?m13 ?m14 ?m15 ?_)
              | go_in)
            try (case m11 =>
              intro q u hu
              rcases q with _ | _ | _ | _ | q <;> simp at hu <;> subst hu <;> simp [Addr.add])
            case m12 => first | exact ⟨rfl, rfl, rfl, rfl⟩ | (intro u hu; simp at hu; rcases hu with rfl | rfl | rfl | rfl <;> rfl)
            case m13 => unfold maxLen; omega
            case m14 => omega
            case m15 => first | omega | (simp; omega)
            intro v1 w1 hown hgrow hnil hat
            have HB : Hid (Below w.heap.size w w1) := (hr.out.2.2.2.2.alloc hbs _).grown hgrow (by simp; omega) (fun t ht => (hr.out.2.2.2.1.lt t ht).1)
            have ef : flat (F ++ [⟨i, x - i, j, y - j⟩]) = flat F ++ [.int .i64 (i : Int), .int .i64 ((x : Int) - i), .int .i64 (j : Int), .int .i64 ((y : Int) - j)] := by
              rw [flat_snoc, show (x : Int) - i = ((x - i : Nat) : Int) from by omega, show (y : Int) - j = ((y - j : Nat) : Int) from by omega]
              rfl
            rw [← ef] at hown
            have HV : Hid (w1.ownsRow w.heap.size 47 4 v1 (F.length + 1) (flat (F ++ [⟨i, x - i, j, y - j⟩]))) := hown
            have hv : ∃ so' cs', v1 = .slice so' (F.length + 1) cs' := by
              rcases hown.2 with ⟨_, h0⟩ | ⟨g, cap, cur, e, _⟩
              · omega
              · exact ⟨_, cap, e⟩
            obtain ⟨so', cs', rfl⟩ := hv
            clear hown hgrow hnil hat ef
            go_wp2
            go_roundw
            case rel =>
              refine ⟨k + 1, x + 1, y + 1, F ++ [⟨i, x - i, j, y - j⟩], so', cs', by omega, by rw [List.length_append]; rfl, by go_num, by go_num, by go_num, ?_, ?_, GA.out.symm, ?_, HB.out⟩
              · rw [Plain.sI_next, E.out.1]
              · rw [Plain.sI_next, E.out.2]
              · rw [List.length_append]; exact HV.out
            case measure => simp [intOf]; omega
          · have GN : Hid (Plain.gl p q (k + 1) = F) := by
              have h1 := hr.out
              have h2 := E.out
              rw [h1.2.2.1]
              exact Plain.gl_no (by rw [← h1.1, ← h1.2.1, ← h2.1, ← h2.2]; omega)
            go_wp2
            go_roundw
            case rel =>
              refine ⟨k + 1, x + 1, y + 1, F, so, cs, by omega, rfl, by go_num, by go_num, by go_num, ?_, ?_, GN.out.symm, hr.out.2.2.2.1, hr.out.2.2.2.2⟩
              · rw [Plain.sI_next, E.out.1]
              · rw [Plain.sI_next, E.out.2]
            case measure => simp [intOf]; omega
      · have ek : k = n := by omega
        have exN : x = N := by rw [E.out.1, ek]; exact HA.out.2.2.2.1
        have eyM : y = M := by rw [E.out.2, ek]; exact HA.out.2.2.2.2
        subst exN eyM
        clear ek
        by_cases t1 : (0 : Int) < (x : Int) - i
        · have GA : Hid (Plain.gl p q (k + 1) = F ++ [⟨i, x - i, j, y - j⟩]) := by
            have h1 := hr.out
            have h2 := E.out
            rw [h1.2.2.1, h1.1, h1.2.1, h2.1, h2.2]
            exact Plain.gl_add (by rw [← h1.1, ← h1.2.1, ← h2.1, ← h2.2]; omega)
          go_wp2_with (first
            | (at_builtin; refine wpList_append_own_at _ rfl _ _ 43 rfl w.heap.size 47 i0 _ 4 32 Try.underlying43 ii hz0 hz1 hz2 rfl (by decide) _ _ _ rfl (hr.out.2.2.2.1.alloc _) _ 1 1 [.int .i64 (i : Int), .int .i64 ((x : Int) - i), .int .i64 (j : Int), .int .i64 ((y : Int) - j)] rfl rfl ?m21 ?m22 ?m23 ?m24 ?m25 ?_)
            | go_in)
          try (case m21 =>
            intro q u hu
            rcases q with _ | _ | _ | _ | q <;> simp at hu <;> subst hu <;> simp [Addr.add])
          case m22 => first | exact ⟨rfl, rfl, rfl, rfl⟩ | (intro u hu; simp at hu; rcases hu with rfl | rfl | rfl | rfl <;> rfl)
          case m23 => unfold maxLen; omega
          case m24 => omega
          case m25 => first | omega | (simp; omega)
          intro v1 w1 hown hgrow hnil hat
          have HB : Hid (Below w.heap.size w w1) := (hr.out.2.2.2.2.alloc hbs _).grown hgrow (by simp; omega) (fun t ht => (hr.out.2.2.2.1.lt t ht).1)
          have ef : flat (F ++ [⟨i, x - i, j, y - j⟩]) = flat F ++ [.int .i64 (i : Int), .int .i64 ((x : Int) - i), .int .i64 (j : Int), .int .i64 ((y : Int) - j)] := by
            rw [flat_snoc, show (x : Int) - i = ((x - i : Nat) : Int) from by omega, show (y : Int) - j = ((y - j : Nat) : Int) from by omega]
            rfl
          rw [← ef] at hown
          have HV : Hid (w1.ownsRow w.heap.size 47 4 v1 (F.length + 1) (flat (F ++ [⟨i, x - i, j, y - j⟩]))) := hown
          have hv : ∃ so' cs', v1 = .slice so' (F.length + 1) cs' := by
            rcases hown.2 with ⟨_, h0⟩ | ⟨g, cap, cur, e, _⟩
            · omega
            · exact ⟨_, cap, e⟩
          obtain ⟨so', cs', rfl⟩ := hv
          clear hown hgrow hnil hat ef
          go_wp2
          go_roundw
          case rel =>
            refine ⟨k + 1, x + 1, y + 1, F ++ [⟨i, x - i, j, y - j⟩], so', cs', by omega, by rw [List.length_append]; rfl, by go_num, by go_num, by go_num, ?_, ?_, GA.out.symm, ?_, HB.out⟩
            · rw [Plain.sI_next, E.out.1]
            · rw [Plain.sI_next, E.out.2]
            · rw [List.length_append]; exact HV.out
          case measure => simp [intOf]; omega
        · by_cases t2 : (0 : Int) < (y : Int) - j
          · have GA : Hid (Plain.gl p q (k + 1) = F ++ [⟨i, x - i, j, y - j⟩]) := by
              have h1 := hr.out
              have h2 := E.out
              rw [h1.2.2.1, h1.1, h1.2.1, h2.1, h2.2]
              exact Plain.gl_add (by rw [← h1.1, ← h1.2.1, ← h2.1, ← h2.2]; omega)
            go_wp2_with (first
              | (at_builtin; refine wpList_append_own_at _ rfl _ _ 43 rfl w.heap.size 47 i0 _ 4 32 Try.underlying43 ii hz0 hz1 hz2 rfl (by decide) _ _ _ rfl (hr.out.2.2.2.1.alloc _) _ 1 1 [.int .i64 (i : Int), .int .i64 ((x : Int) - i), .int .i64 (j : Int), .int .i64 ((y : Int) - j)] rfl rfl ?m31 ?m32 ?m33 ?m34 ?m35 ?_)
              | go_in)
            try (case m31 =>
              intro q u hu
              rcases q with _ | _ | _ | _ | q <;> simp at hu <;> subst hu <;> simp [Addr.add])
            case m32 => first | exact ⟨rfl, rfl, rfl, rfl⟩ | (intro u hu; simp at hu; rcases hu with rfl | rfl | rfl | rfl <;> rfl)
            case m33 => unfold maxLen; omega
            case m34 => omega
            case m35 => first | omega | (simp; omega)
            intro v1 w1 hown hgrow hnil hat
            have HB : Hid (Below w.heap.size w w1) := (hr.out.2.2.2.2.alloc hbs _).grown hgrow (by simp; omega) (fun t ht => (hr.out.2.2.2.1.lt t ht).1)
            have ef : flat (F ++ [⟨i, x - i, j, y - j⟩]) = flat F ++ [.int .i64 (i : Int), .int .i64 ((x : Int) - i), .int .i64 (j : Int), .int .i64 ((y : Int) - j)] := by
              rw [flat_snoc, show (x : Int) - i = ((x - i : Nat) : Int) from by omega, show (y : Int) - j = ((y - j : Nat) : Int) from by omega]
              rfl
            rw [← ef] at hown
            have HV : Hid (w1.ownsRow w.heap.size 47 4 v1 (F.length + 1) (flat (F ++ [⟨i, x - i, j, y - j⟩]))) := hown
            have hv : ∃ so' cs', v1 = .slice so' (F.length + 1) cs' := by
              rcases hown.2 with ⟨_, h0⟩ | ⟨g, cap, cur, e, _⟩
              · omega
              · exact ⟨_, cap, e⟩
            obtain ⟨so', cs', rfl⟩ := hv
            clear hown hgrow hnil hat ef
            go_wp2
            go_roundw
            case rel =>
              refine ⟨k + 1, x + 1, y + 1, F ++ [⟨i, x - i, j, y - j⟩], so', cs', by omega, by rw [List.length_append]; rfl, by go_num, by go_num, by go_num, ?_, ?_, GA.out.symm, ?_, HB.out⟩
              · rw [Plain.sI_next, E.out.1]
              · rw [Plain.sI_next, E.out.2]
              · rw [List.length_append]; exact HV.out
            case measure => simp [intOf]; omega
          · have GN : Hid (Plain.gl p q (k + 1) = F) := by
              have h1 := hr.out
              have h2 := E.out
              rw [h1.2.2.1]
              exact Plain.gl_no (by rw [← h1.1, ← h1.2.1, ← h2.1, ← h2.2]; omega)
            go_wp2
            go_roundw
            case rel =>
              refine ⟨k + 1, x + 1, y + 1, F, so, cs, by omega, rfl, by go_num, by go_num, by go_num, ?_, ?_, GN.out.symm, hr.out.2.2.2.1, hr.out.2.2.2.2⟩
              · rw [Plain.sI_next, E.out.1]
              · rw [Plain.sI_next, E.out.2]
            case measure => simp [intOf]; omega
    · obtain rfl : k = n + 1 := by omega
      go_wp2
      go_ret
      refine ⟨so, cs, ?_, ?_, hr.out.2.2.2.2⟩
      · rw [← hr.out.2.2.1]; rfl
      · rw [← hr.out.2.2.1]; exact ChSl.of_own hr.out.2.2.2.1

end Go.Proofs.Qxb6600330a
