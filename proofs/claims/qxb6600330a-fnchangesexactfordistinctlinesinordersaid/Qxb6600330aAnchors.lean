import Derived.Test.Qxb6600330aDistinct
import Derived.Test.Qxb6600330aAnch
import Derived.Maps.AppendAt
namespace Go.Proofs.Qxb6600330a
open Go.RowKit
set_option linter.unusedVariables false

def Apart (v1 v2 : Value) : Prop := ∀ g, v1.ownBlock = some g → v2.ownBlock = some g → False
def fsts (P : List (Nat × Nat)) : List Value := P.map fun p => .int .i64 (p.1 : Int)
def snds (P : List (Nat × Nat)) : List Value := P.map fun p => .int .i64 (p.2 : Int)
/-- Two slices of one's own. -/
def Two (base : Nat) (w : World) (v1 v2 : Value) (P : List (Nat × Nat)) : Prop :=
  w.ownsRow base 3 1 v1 P.length (fsts P) ∧ w.ownsRow base 3 1 v2 P.length (snds P) ∧ Apart v1 v2
theorem Two.nil (base : Nat) (w : World) : Two base w (.slice none 0 0) (.slice none 0 0) [] :=
  ⟨World.ownsRow_nil _ _ _ _, World.ownsRow_nil _ _ _ _, fun g h => by simp [Value.ownBlock] at h⟩
theorem Two.drewN {base : Nat} {w : World} {v1 v2 : Value} {P : List (Nat × Nat)} (h : Two base w v1 v2 P) (n : Nat) : Two base (w.drewN n) v1 v2 P := h
theorem Apart.ne {v1 v2 : Value} (h : Apart v1 v2) : v2.ownBlock = none ∨ v2.ownBlock ≠ v1.ownBlock := by
  cases e : v2.ownBlock with
  | none => exact .inl rfl
  | some g => exact .inr fun e2 => h g e2.symm e
theorem Apart.ne' {v1 v2 : Value} (h : Apart v1 v2) : v1.ownBlock = none ∨ v1.ownBlock ≠ v2.ownBlock := by
  cases e : v1.ownBlock with
  | none => exact .inl rfl
  | some g => exact .inr fun e2 => h g e e2.symm

section
variable {base : Nat} {w wr w2 : World} {v1 v2 v1' v2' : Value} {n m : Nat} {xs ys xs' ys' : List Value} {o : Obj}
theorem two_first (h1 : wr.ownsRow base 3 1 v1 n xs) (h2 : wr.ownsRow base 3 1 v2 m ys) (ap : Apart v1 v2) (hb : Below base w wr) (hs : base ≤ wr.heap.size)
    (hgrow : (wr.alloc o).grownBy w2 v1.ownBlock) (hat : v1'.ownBlock = v1.ownBlock ∨ v1'.ownBlock = some (wr.heap.size + 1)) :
    w2.ownsRow base 3 1 v2 m ys ∧ Apart v1' v2 ∧ Below base w w2 ∧ base ≤ w2.heap.size := by
  refine ⟨(h2.alloc o).kept hgrow ap.ne, fun g e1 e2 => ?_, (hb.alloc hs o).grown hgrow (by simp; omega) (fun j hj => by have := (h1.lt j hj).1; omega), by have := hgrow.size; simp at this; omega⟩
  rcases hat with e | e
  · exact ap g (e ▸ e1) e2
  · rw [e] at e1
    have := (h2.lt g e2).2
    simp at e1
    omega
theorem two_second (h1 : wr.ownsRow base 3 1 v1 n xs) (h2 : wr.ownsRow base 3 1 v2 m ys) (ap : Apart v1 v2) (hb : Below base w wr) (hs : base ≤ wr.heap.size)
    (hgrow : (wr.alloc o).grownBy w2 v2.ownBlock) (hat : v2'.ownBlock = v2.ownBlock ∨ v2'.ownBlock = some (wr.heap.size + 1)) :
    w2.ownsRow base 3 1 v1 n xs ∧ Apart v1 v2' ∧ Below base w w2 ∧ base ≤ w2.heap.size := by
  have := two_first (v1' := v2') h2 h1 (fun g a b => ap g b a) hb hs hgrow hat
  exact ⟨this.1, fun g a b => this.2.1 g b a, this.2.2⟩
end

theorem ownsRow_slice {base : Nat} {w : World} {v : Value} {P : List (Nat × Nat)} {f : Nat × Nat → Nat} (h : w.ownsRow base 3 1 v P.length (P.map fun p => .int .i64 (f p : Int))) :
    ∃ ao cap, v = .slice ao P.length cap ∧ IntSl w ao P.length (fun i => (f (P.getD i (0, 0)) : Int)) := by
  rcases h.2 with ⟨rfl, h0⟩ | ⟨g, cap, cur, rfl, _⟩
  · exact ⟨none, 0, by rw [h0], fun h => by omega⟩
  · refine ⟨_, cap, rfl, fun h0 => ⟨g, 0, rfl, fun i hi => ?_⟩⟩
    have := h.cells (g := g) rfl i (.int .i64 (f (P.getD i (0, 0)) : Int)) (by
      rw [List.getElem?_map, List.getD_eq_getElem?_getD, List.getElem?_eq_getElem hi]; rfl)
    rw [Addr.add_lit] at this
    exact this

/-- What anchorsInt answers. -/
def RetA (A B : Nat → Int) (N M : Nat) (w : World) (e : Ending) (w' : World) : Prop :=
  Below w.heap.size w w' ∧ (e = .returned (.tuple #[.bool false, .slice none 0 0, .slice none 0 0]) ∨
    ∃ (P : List (Nat × Nat)) (last : Int) (o1 : Option Addr) (c1 : Nat) (o2 : Option Addr) (c2 : Nat), e = .returned (.tuple #[.bool true, .slice o1 P.length c1, .slice o2 P.length c2]) ∧
      Plain.Anch A B M N last P ∧ IntSl w' o1 P.length (fun i => ((P.getD i (0, 0)).1 : Int)) ∧ IntSl w' o2 P.length (fun i => ((P.getD i (0, 0)).2 : Int)))
theorem RetA.no {A B : Nat → Int} {N M : Nat} {w : World} {e : Ending} {w' : World} (h : e = .returned (.tuple #[.bool false, .slice none 0 0, .slice none 0 0])) (hb : Below w.heap.size w w') : RetA A B N M w e w' := ⟨hb, .inl h⟩
theorem RetA.yes {A B : Nat → Int} {N M : Nat} {w : World} {e : Ending} {w' : World} {v1 v2 : Value} {P : List (Nat × Nat)} {last : Int} (h : e = .returned (.tuple #[.bool true, v1, v2])) (hb : Below w.heap.size w w')
    (h2 : Two w.heap.size w' v1 v2 P) (ha : Plain.Anch A B M N last P) : RetA A B N M w e w' := by
  obtain ⟨o1, c1, rfl, i1⟩ := ownsRow_slice (f := fun p => p.1) h2.1
  obtain ⟨o2, c2, rfl, i2⟩ := ownsRow_slice (f := fun p => p.2) h2.2.1
  exact ⟨hb, .inr ⟨P, last, o1, c1, o2, c2, h, ha, i1, i2⟩⟩

/-- Where the search for a value's place stands. -/
def Pos (A B : Nat → Int) (i M j : Nat) (p : Int) : Prop := (p = -1 ∧ ∀ t, t < j → ¬ A i = B t) ∨ ∃ q : Nat, p = q ∧ q < M ∧ A i = B q

set_option maxRecDepth 100000 in
set_option maxHeartbeats 4000000 in
theorem anchorsInt_any (ao bo : Option Addr) (N c0 M c1 : Nat) (A B : Nat → Int) (w : World) (hN : N ≤ 4096) (hM : M ≤ 4096) (ha : IntSl w ao N A) (hb : IntSl w bo M B) :
    Calls Try.prog 12 #[.slice ao N c0, .slice bo M c1] w (RetA A B N M w) := by
  obtain ⟨i0, hi, hz0, hz1, hz2⟩ := info_parts info3
  have HA : Hid (IntSl w ao N A) := ha
  have HB : Hid (IntSl w bo M B) := hb
  clear ha hb
  have g0 : (N : Int) ≤ 4096 := by omega
  have g1 : (M : Int) ≤ 4096 := by omega
  go_enter Try.func12, Try.ntmps12
  go_wp2_with fail
  refine (distinctInt_any ao N c0 A _ hN HA.out).mono ?_
  rintro e w1 ⟨b1, rfl, hd1, hw1⟩
  have W1 : Hid (Below w.heap.size w w1) := hw1
  clear hw1
  cases b1 with
  | false =>
    clear hd1
    go_wp2_with fail
    go_ret3
    exact .no rfl W1.out
  | true =>
    clear hd1
    go_wp2_with fail
    refine (distinctInt_any bo M c1 B _ hM (HB.out.kept W1.out)).mono ?_
    rintro e w2 ⟨b2, rfl, hd2, hw2⟩
    have W2 : Hid (Below w.heap.size w w2) := W1.out.trans (hw2.mono W1.out.size)
    clear hw2 W1
    cases b2 with
    | false =>
      clear hd2
      go_wp2_with fail
      go_ret3
      exact .no rfl W2.out
    | true =>
      have D2 : Hid (Dist B M) := hd2 rfl
      clear hd2
      go_wp2_with fail
      go_loopw [7, 8, 9, 10] (fun v7 v8 v9 v10 wr => ∃ (i : Nat) (last : Int) (P : List (Nat × Nat)), i ≤ N ∧ v9 = .int .i64 last ∧ v10 = .int .i64 (i : Int) ∧ Hid (Two w.heap.size wr v7 v8 P ∧ Plain.Anch A B M i last P ∧ Below w.heap.size w wr)) (fun _ _ _ v wr => N - (intOf v).toNat)
      case atStart => exact ⟨0, -1, [], by omega, rfl, rfl, Two.nil _ _, Plain.anch_start, W2.out⟩
      case round =>
        obtain ⟨i, last, P, hiN, rfl, rfl, hr⟩ := hrel
        have hi3 : (i : Int) ≤ 4096 := by omega
        by_cases q1 : (i : Int) < N
        · obtain ⟨ba, oa, rfl, hra⟩ := HA.out (by omega)
          have HRA : Hid (IntRow w ba oa N A) := hra
          clear hra HA
          obtain ⟨wo, ewo⟩ : ∃ wo : World, wo = wr := ⟨_, rfl⟩
          have HO : Hid (wo = wr) := ewo
          clear ewo
          go_wp2_with fail
          go_loopw [11, 12] (fun v11 v12 wr => ∃ (j : Nat) (p : Int), j ≤ M ∧ v11 = .int .i64 p ∧ v12 = .int .i64 (j : Int) ∧ Hid (Pos A B i M j p ∧ Two w.heap.size wr u7 u8 P ∧ Below w.heap.size w wr)) (fun _ v wr => M - (intOf v).toNat)
          case atStart => exact ⟨0, -1, by omega, rfl, rfl, .inl ⟨rfl, fun t ht => by omega⟩, by have := HO.out; rw [← this]; rw [this]; exact ⟨hr.out.1, hr.out.2.2⟩⟩
          case round =>
            obtain ⟨j, p, hj, rfl, rfl, h2⟩ := hrel
            have hj3 : (j : Int) ≤ 4096 := by omega
            by_cases qp : p < 0
            · by_cases q2 : (j : Int) < (M : Int)
              · obtain ⟨bb, ob, rfl, hrb⟩ := HB.out (by omega)
                have k1 : wr.cell? ⟨ba, oa + i, none⟩ = some (.int .i64 (A i)) := cell_later h2.out.2.2 (HRA.out i (by omega))
                have k2 : wr.cell? ⟨bb, ob + j, none⟩ = some (.int .i64 (B j)) := cell_later h2.out.2.2 (hrb j (by omega))
                clear hrb HB
                by_cases q3 : A i = B j
                · have d3 : (A i == B j) = true := by simpa using q3
                  have Q3 : Hid (A i = B j) := q3
                  clear q3
                  go_wp2_with fail
                  go_quiet (fail)
                  go_wp2
                  go_roundw
                  case rel => exact ⟨j + 1, (j : Int), by omega, rfl, by go_num, .inr ⟨j, rfl, by omega, Q3.out⟩, h2.out.2.1.drewN _, below_drewN h2.out.2.2 _⟩
                  case measure => simp [intOf]; omega
                · have d3 : (A i == B j) = false := by simpa using q3
                  have Q3 : Hid (¬ A i = B j) := q3
                  clear q3
                  go_wp2_with fail
                  go_quiet (fail)
                  go_wp2
                  go_roundw
                  case rel =>
                    refine ⟨j + 1, p, by omega, rfl, by go_num, ?_, h2.out.2.1.drewN _, below_drewN h2.out.2.2 _⟩
                    rcases h2.out.1 with ⟨e, hno⟩ | ⟨q, e, _⟩
                    · refine .inl ⟨e, fun t ht => ?_⟩
                      by_cases et : t = j
                      · subst et; exact Q3.out
                      · exact hno t (by omega)
                    · exfalso; omega
                  case measure => simp [intOf]; omega
              · have R : Hid (Two w.heap.size wr u7 u8 P ∧ Plain.Anch A B M (i + 1) last P ∧ Below w.heap.size w wr) := by
                  refine ⟨h2.out.2.1, ?_, h2.out.2.2⟩
                  rcases h2.out.1 with ⟨e, hno⟩ | ⟨q, e, _⟩
                  · exact Plain.anch_skip hr.out.2.1 (fun t ht => hno t (by omega))
                  · exfalso; omega
                clear h2 hr
                have qp' : ¬ 0 ≤ p := by omega
                go_wp2
                go_roundw
                case rel => exact ⟨i + 1, last, P, by omega, rfl, by go_num, R.out⟩
                case measure => simp [intOf]; omega
            · have E : Hid (∃ q : Nat, p = q ∧ q < M ∧ A i = B q) := by
                rcases h2.out.1 with ⟨e, hno⟩ | h
                · exfalso; omega
                · exact h
              obtain ⟨q, rfl, hqM, hq⟩ := E.out
              have EQ : Hid (q < M ∧ A i = B q) := ⟨hqM, hq⟩
              clear E hq
              have R : Hid (Two w.heap.size wr u7 u8 P ∧ Plain.Anch A B M i last P ∧ Below w.heap.size w wr) := ⟨h2.out.2.1, hr.out.2.1, h2.out.2.2⟩
              clear h2 hr
              by_cases q4 : (q : Int) ≤ last
              · by_cases q2 : (j : Int) < (M : Int)
                · go_wp2
                  go_ret3
                  exact .no rfl R.out.2.2
                · go_wp2
                  go_ret3
                  exact .no rfl R.out.2.2
              · have hPl : P.length ≤ 4096 := Nat.le_trans R.out.2.1.len (by omega)
                have hsz := R.out.2.2.size
                by_cases q2 : (j : Int) < (M : Int)
                · go_wp2_with (first
                    | (at_builtin; refine wpList_append_own_at _ rfl _ _ 22 rfl w.heap.size 3 i0 (.int .i64 0) 1 8 Try.underlying22 hi hz0 hz1 hz2 rfl (by decide) _ _ _ rfl (R.out.1.1.alloc _) ⟨wr.heap.size, 0, none⟩ 1 1 [.int .i64 (i : Int)] rfl rfl (cell_one_new _ _ _) ?c2 ?c3 ?c4 ?c5 ?_)
                    | go_in)
                  case c2 => first | rfl | (intro u hu; simp at hu; subst hu; rfl)
                  case c3 => unfold maxLen; omega
                  case c4 => omega
                  case c5 => first | omega | (simp; omega)
                  intro v1 w1 hown1 hgrow1 _ hat1
                  have T1 := two_first R.out.1.1 R.out.1.2.1 R.out.1.2.2 R.out.2.2 hsz hgrow1 hat1
                  have T : Hid (w1.ownsRow w.heap.size 3 1 v1 (P.length + 1) (fsts P ++ [.int .i64 (i : Int)]) ∧ w1.ownsRow w.heap.size 3 1 u8 P.length (snds P) ∧ Apart v1 u8 ∧ Below w.heap.size w w1) := ⟨hown1, T1.1, T1.2.1, T1.2.2.1⟩
                  have hs1 := T1.2.2.2
                  have AN : Hid (Plain.Anch A B M (i + 1) q (P ++ [(i, q)])) := Plain.anch_add R.out.2.1 EQ.out.1 EQ.out.2 (by omega) D2.out
                  clear hown1 hgrow1 hat1 T1 R
                  go_wp2_with (first
                    | (at_builtin; refine wpList_append_own_at _ rfl _ _ 22 rfl w.heap.size 3 i0 (.int .i64 0) 1 8 Try.underlying22 hi hz0 hz1 hz2 rfl (by decide) _ _ _ rfl (T.out.2.1.alloc _) ⟨w1.heap.size, 0, none⟩ 1 1 [.int .i64 (q : Int)] rfl rfl (cell_one_new _ _ _) ?c2 ?c3 ?c4 ?c5 ?_)
                    | go_in)
                  case c2 => first | rfl | (intro u hu; simp at hu; subst hu; rfl)
                  case c3 => unfold maxLen; omega
                  case c4 => omega
                  case c5 => first | omega | (simp; omega)
                  intro v2 w3 hown2 hgrow2 _ hat2
                  have T2 := two_second T.out.1 T.out.2.1 T.out.2.2.1 T.out.2.2.2 hs1 hgrow2 hat2
                  have TT : Hid (Two w.heap.size w3 v1 v2 (P ++ [(i, q)]) ∧ Below w.heap.size w w3) := by
                    refine ⟨⟨?_, ?_, T2.2.1⟩, T2.2.2.1⟩
                    · have := T2.1
                      rw [fsts, List.map_append, List.length_append]
                      exact this
                    · have := hown2
                      rw [snds, List.map_append, List.length_append]
                      exact this
                  clear hown2 hgrow2 hat2 T2 T
                  go_wp2
                  go_roundw
                  case rel => exact ⟨i + 1, q, P ++ [(i, q)], by omega, rfl, by go_num, TT.out.1, AN.out, TT.out.2⟩
                  case measure => simp [intOf]; omega
                · go_wp2_with (first
                    | (at_builtin; refine wpList_append_own_at _ rfl _ _ 22 rfl w.heap.size 3 i0 (.int .i64 0) 1 8 Try.underlying22 hi hz0 hz1 hz2 rfl (by decide) _ _ _ rfl (R.out.1.1.alloc _) ⟨wr.heap.size, 0, none⟩ 1 1 [.int .i64 (i : Int)] rfl rfl (cell_one_new _ _ _) ?c2 ?c3 ?c4 ?c5 ?_)
                    | go_in)
                  case c2 => first | rfl | (intro u hu; simp at hu; subst hu; rfl)
                  case c3 => unfold maxLen; omega
                  case c4 => omega
                  case c5 => first | omega | (simp; omega)
                  intro v1 w1 hown1 hgrow1 _ hat1
                  have T1 := two_first R.out.1.1 R.out.1.2.1 R.out.1.2.2 R.out.2.2 hsz hgrow1 hat1
                  have T : Hid (w1.ownsRow w.heap.size 3 1 v1 (P.length + 1) (fsts P ++ [.int .i64 (i : Int)]) ∧ w1.ownsRow w.heap.size 3 1 u8 P.length (snds P) ∧ Apart v1 u8 ∧ Below w.heap.size w w1) := ⟨hown1, T1.1, T1.2.1, T1.2.2.1⟩
                  have hs1 := T1.2.2.2
                  have AN : Hid (Plain.Anch A B M (i + 1) q (P ++ [(i, q)])) := Plain.anch_add R.out.2.1 EQ.out.1 EQ.out.2 (by omega) D2.out
                  clear hown1 hgrow1 hat1 T1 R
                  go_wp2_with (first
                    | (at_builtin; refine wpList_append_own_at _ rfl _ _ 22 rfl w.heap.size 3 i0 (.int .i64 0) 1 8 Try.underlying22 hi hz0 hz1 hz2 rfl (by decide) _ _ _ rfl (T.out.2.1.alloc _) ⟨w1.heap.size, 0, none⟩ 1 1 [.int .i64 (q : Int)] rfl rfl (cell_one_new _ _ _) ?c2 ?c3 ?c4 ?c5 ?_)
                    | go_in)
                  case c2 => first | rfl | (intro u hu; simp at hu; subst hu; rfl)
                  case c3 => unfold maxLen; omega
                  case c4 => omega
                  case c5 => first | omega | (simp; omega)
                  intro v2 w3 hown2 hgrow2 _ hat2
                  have T2 := two_second T.out.1 T.out.2.1 T.out.2.2.1 T.out.2.2.2 hs1 hgrow2 hat2
                  have TT : Hid (Two w.heap.size w3 v1 v2 (P ++ [(i, q)]) ∧ Below w.heap.size w w3) := by
                    refine ⟨⟨?_, ?_, T2.2.1⟩, T2.2.2.1⟩
                    · have := T2.1
                      rw [fsts, List.map_append, List.length_append]
                      exact this
                    · have := hown2
                      rw [snds, List.map_append, List.length_append]
                      exact this
                  clear hown2 hgrow2 hat2 T2 T
                  go_wp2
                  go_roundw
                  case rel => exact ⟨i + 1, q, P ++ [(i, q)], by omega, rfl, by go_num, TT.out.1, AN.out, TT.out.2⟩
                  case measure => simp [intOf]; omega
        · have e : i = N := by omega
          subst e
          go_wp2
          go_ret3
          exact .yes rfl hr.out.2.2 hr.out.1 hr.out.2.1

end Go.Proofs.Qxb6600330a
