import Derived.Test.Qxb6000630aRows
import Derived.Test.Qxb6000630aPlain
import Derived.WalkKit
import Derived.WalkSpells
import Derived.WalkLawsBesides
import Derived.Deep.RegionLaw
import Derived.Deep.AppendLies
namespace Go.Proofs.Qxb6000630a
open Go.RowKit
set_option linter.unusedVariables false
set_option linter.unusedSimpArgs false

theorem Hid.out {p : Prop} (h : Hid p) : p := h

theorem info51 : (Try.prog.info? 51).map (fun i => (i.zero, i.size, i.bytes)) = some (some (.agg #[.int .i64 0, .int .u64 0]), 2, 16) := by kernel_rfl

/-- The log's rows as cells. -/
def flat : List (Int × Int) → List Value
  | [] => []
  | p :: t => .int .i64 p.1 :: .int .u64 p.2 :: flat t
theorem flat_len : ∀ L : List (Int × Int), (flat L).length = L.length * 2
  | [] => rfl
  | p :: t => by show (flat t).length + 1 + 1 = (t.length + 1) * 2; rw [flat_len t]; omega
theorem flat_append : ∀ L K : List (Int × Int), flat (L ++ K) = flat L ++ flat K
  | [], K => rfl
  | p :: t, K => by show _ :: _ :: flat (t ++ K) = _; rw [flat_append t K]; rfl
theorem flat_at : ∀ (L : List (Int × Int)) (k : Nat), k < L.length → (flat L)[k * 2]? = some (.int .i64 (L.getD k (0, 0)).1) ∧ (flat L)[k * 2 + 1]? = some (.int .u64 (L.getD k (0, 0)).2)
  | [], k, h => by simp at h
  | p :: t, 0, h => ⟨rfl, rfl⟩
  | p :: t, k + 1, h => by
    have := flat_at t k (by simpa using h)
    rw [show (k + 1) * 2 = k * 2 + 1 + 1 from by omega]
    exact this
theorem flat_set (L0 : List (Int × Int)) (p : Int × Int) (t : Int) : (flat (L0 ++ [p])).set (L0.length * 2 + 1) (.int .u64 t) = flat (L0 ++ [(p.1, t)]) := by
  rw [flat_append, flat_append, List.set_append, if_neg (by rw [flat_len]; omega), flat_len, show L0.length * 2 + 1 - L0.length * 2 = 1 from by omega]
  rfl

/-- A store into the row itself. -/
theorem own_set {w : World} {base : Nat} {e : TypeId} {size : Nat} {v : Value} {n : Nat} {xs : List Value} (h : w.ownsRow base e size v n xs) {g : Nat} (hg : v.ownBlock = some g) (i : Nat) (hi : i < n * size) (u : Value) :
    (w.setCell ⟨g, i, none⟩ u).ownsRow base e size v n (xs.set i u) := by
  refine ⟨by rw [List.length_set]; exact h.1, ?_⟩
  rcases h.2 with ⟨rfl, _⟩ | ⟨g', cap, cur, rfl, hb, hgg, hn, hm, hs, ht⟩
  · simp [Value.ownBlock] at hg
  · have e : g' = g := by simpa [Value.ownBlock] using hg
    subst e
    refine .inr ⟨g', cap, cur.setIfInBounds i u, rfl, hb, ?_, hn, hm, by simpa using hs, ?_⟩
    · simp [World.setCell, Array.getElem?_modify, hgg]
    · rw [Array.toList_setIfInBounds, List.take_set, ht]

/-- The log in memory. -/
structure Lg (w : World) (bl : Nat) (v : Value) (L : List (Int × Int)) (th : Int) : Prop where
  c : w.heap[bl]? = some (.cells #[v, .int .u64 th, .int .u64 0, .int .i64 0] 49)
  own : w.ownsRow (bl + 1) 51 2 v L.length (flat L)
section
variable {w w' : World} {bl : Nat} {v : Value} {L : List (Int × Int)} {th : Int}
theorem Lg.c0 (h : Lg w bl v L th) : w.cell? ⟨bl, 0, none⟩ = some v := by simp [World.cell?, h.c]
theorem Lg.c1 (h : Lg w bl v L th) : w.cell? ⟨bl, 1, none⟩ = some (.int .u64 th) := by simp [World.cell?, h.c]
theorem Lg.c2 (h : Lg w bl v L th) : w.cell? ⟨bl, 2, none⟩ = some (.int .u64 0) := by simp [World.cell?, h.c]
theorem Lg.c3 (h : Lg w bl v L th) : w.cell? ⟨bl, 3, none⟩ = some (.int .i64 0) := by simp [World.cell?, h.c]
theorem Lg.fz (h : Lg w bl v L th) (i : Nat) : w.frozen? ⟨bl, i, none⟩ = false := by simp [World.frozen?, h.c]
theorem Lg.lt (h : Lg w bl v L th) : bl < w.heap.size := (Array.getElem?_eq_some_iff.1 h.c).1
theorem Lg.form (h : Lg w bl v L th) : (v = .slice none 0 0 ∧ L = []) ∨ ∃ g cap, v = .slice (some ⟨g, 0, none⟩) L.length cap ∧ bl < g ∧ (∀ k, k < L.length → w.cell? ⟨g, k * 2, none⟩ = some (.int .i64 (L.getD k (0, 0)).1) ∧ w.cell? ⟨g, k * 2 + 1, none⟩ = some (.int .u64 (L.getD k (0, 0)).2)) ∧ ∀ i, w.frozen? ⟨g, i, none⟩ = false := by
  rcases h.own.2 with ⟨rfl, h0⟩ | ⟨g, cap, cur, rfl, hb, hg, _⟩
  · exact .inl ⟨rfl, List.eq_nil_of_length_eq_zero h0⟩
  · refine .inr ⟨g, cap, rfl, hb, fun k hk => ?_, fun i => by simp [World.frozen?, hg]⟩
    have q1 := h.own.cells (g := g) rfl (k * 2) _ (flat_at L k hk).1
    have q2 := h.own.cells (g := g) rfl (k * 2 + 1) _ (flat_at L k hk).2
    rw [Addr.add_lit, Nat.zero_add] at q1 q2
    exact ⟨q1, q2⟩
theorem Lg.setTh (h : Lg w bl v L th) (t : Int) : Lg (w.setCell ⟨bl, 1, none⟩ (.int .u64 t)) bl v L t :=
  ⟨by simp [World.setCell, Array.getElem?_modify, h.c], ownsRow_setCell_below h.own (Nat.lt_succ_self _) _⟩
theorem Lg.same {w : World} {p : Int × Int} {L0 : List (Int × Int)} {g cap : Nat} (h : Lg w bl (.slice (some ⟨g, 0, none⟩) (L0 ++ [p]).length cap) (L0 ++ [p]) th) (hg : bl < g) (t : Int) :
    Lg (w.setCell ⟨g, L0.length * 2 + 1, none⟩ (.int .u64 t)) bl (.slice (some ⟨g, 0, none⟩) (L0 ++ [p]).length cap) (L0 ++ [(p.1, t)]) th := by
  refine ⟨?_, ?_⟩
  · rw [Below.heap_setCell _ _ _ _ (by show bl ≠ g; omega)]; exact h.c
  · have := own_set h.own (g := g) rfl (L0.length * 2 + 1) (by rw [List.length_append]; simp; omega) (.int .u64 t)
    rw [flat_set] at this
    have e : (L0 ++ [(p.1, t)]).length = (L0 ++ [p]).length := by simp
    rw [e]
    exact this
theorem Lg.kept (h : Lg w bl v L th) (k : Below w.heap.size w w') : Lg w' bl v L th := by
  refine ⟨by rw [k.block bl h.lt]; exact h.c, h.own.1, ?_⟩
  rcases h.own.2 with q | ⟨g, cap, cur, e, hb, hg, r⟩
  · exact .inl q
  · refine .inr ⟨g, cap, cur, e, hb, ?_, r⟩
    rw [k.block g (Array.getElem?_eq_some_iff.1 hg).1]; exact hg
theorem Lg.drew (h : Lg w bl v L th) : Lg w.drew bl v L th := ⟨h.c, h.own⟩
theorem Lg.new {w1 : World} {g cap : Nat} {o : Obj} {x : Int × Int} (h : Lg w bl v L th) (hown : w1.ownsRow (bl + 1) 51 2 (.slice (some ⟨g, 0, none⟩) (L.length + 1) cap) (L.length + 1) (flat L ++ [.int .i64 x.1, .int .u64 x.2])) (hgrow : (w.drew.alloc o).grownBy w1 v.ownBlock) :
    Lg (w1.setCell ⟨bl, 0, none⟩ (.slice (some ⟨g, 0, none⟩) (L.length + 1) cap)) bl (.slice (some ⟨g, 0, none⟩) (L.length + 1) cap) (L ++ [x]) th := by
  have hb : w1.heap[bl]? = some (.cells #[v, .int .u64 th, .int .u64 0, .int .i64 0] 49) := by
    rw [hgrow.block bl (by show bl < (w.heap.push o).size; rw [Array.size_push]; have := h.lt; omega) (fun e => by have := (h.own.lt bl e.symm).1; omega)]
    show (w.heap.push o)[bl]? = _
    rw [Array.getElem?_push_lt h.lt, ← Array.getElem?_eq_getElem h.lt]
    exact h.c
  refine ⟨by simp [World.setCell, Array.getElem?_modify, hb], ?_⟩
  have := ownsRow_setCell_below hown (a := ⟨bl, 0, none⟩) (Nat.lt_succ_self _) (.slice (some ⟨g, 0, none⟩) (L.length + 1) cap)
  rw [flat_append, List.length_append]
  exact this
theorem Lg.after {w1 : World} {o : Obj} (h : Lg w bl v L th) (hgrow : (w.drew.alloc o).grownBy w1 v.ownBlock) : w1.cell? ⟨bl, 0, none⟩ = some v ∧ w1.frozen? ⟨bl, 0, none⟩ = false := by
  have hb : w1.heap[bl]? = some (.cells #[v, .int .u64 th, .int .u64 0, .int .i64 0] 49) := by
    rw [hgrow.block bl (by show bl < (w.heap.push o).size; rw [Array.size_push]; have := h.lt; omega) (fun e => by have := (h.own.lt bl e.symm).1; omega)]
    show (w.heap.push o)[bl]? = _
    rw [Array.getElem?_push_lt h.lt, ← Array.getElem?_eq_getElem h.lt]
    exact h.c
  exact ⟨by simp [World.cell?, hb], by simp [World.frozen?, hb]⟩
end
theorem two_news (w : World) (x y : Value) (t : TypeId) : ∀ j u, [x, y][j]? = some u → (w.drew.alloc (.cells #[x, y] t)).cell? ((⟨w.heap.size, 0, none⟩ : Addr).add j) = some u :=
  World.news_of_block (w := w.drew.alloc (.cells #[x, y] t)) (cs := #[x, y]) (t := t) (fr := (0, 0)) (by show (w.heap.push _)[w.heap.size]? = _; simp)

/-- What record leaves. -/
def Rec (bl : Nat) (L : List (Int × Int)) (at' h th : Int) (w w' : World) : Prop :=
  Below bl w w' ∧ ∃ v' L', Lg w' bl v' L' (th + h) ∧ ((∃ L0 p, L = L0 ++ [p] ∧ p.1 = at' ∧ L' = L0 ++ [(at', th + h)]) ∨ ((∀ L0 p, L = L0 ++ [p] → p.1 ≠ at') ∧ L' = L ++ [(at', th + h)]))

theorem rec_new {bl : Nat} {L : List (Int × Int)} {at' h th : Int} {w ws w1 : World} {v : Value} {g' cap' : Nat} {o : Obj} (B1 : Below bl w ws) (H3 : Lg ws bl v L (th + h))
    (hown : w1.ownsRow (bl + 1) 51 2 (.slice (some ⟨g', 0, none⟩) (L.length + 1) cap') (L.length + 1) (flat L ++ [.int .i64 at', .int .u64 (th + h)])) (hgrow : (ws.drew.alloc o).grownBy w1 v.ownBlock)
    (HP : ∀ L0 p, L = L0 ++ [p] → p.1 ≠ at') : Rec bl L at' h th w (w1.setCell ⟨bl, 0, none⟩ (.slice (some ⟨g', 0, none⟩) (L.length + 1) cap')) := by
  have hlt := H3.lt
  have b : Below bl w w1 := (B1.drew.alloc (by show bl ≤ ws.heap.size; omega) o).grown hgrow (by show bl ≤ (ws.heap.push o).size; rw [Array.size_push]; omega) (fun k e => by have := (H3.own.lt k e).1; omega)
  exact ⟨b.setCell (by show bl ≤ bl; omega) _, _, _, H3.new (x := (at', th + h)) hown hgrow, .inr ⟨HP, rfl⟩⟩

set_option maxRecDepth 100000 in
set_option maxHeartbeats 1000000 in
theorem record_zero (bl : Nat) (at' : Int) (w : World) :
    Calls Try.prog 27 #[.pointer (some ⟨bl, 0, none⟩), .int .i64 at', .int .u64 0] w fun e w' => e = .returned (.tuple #[]) ∧ w' = w := by
  go_enter Try.func27, Try.ntmps27
  go_wp2
  refine bodyPost_ret (results_none rfl _ _ _) rfl ?_
  exact ⟨rfl, rfl⟩

set_option maxRecDepth 100000 in
set_option maxHeartbeats 1000000 in
theorem record_same (bl : Nat) (L0 : List (Int × Int)) (p : Int × Int) (at' h th : Int) (v : Value) (w : World) (hl : Lg w bl v (L0 ++ [p]) th) (hp : p.1 = at') (h0 : 0 < h) (h1 : 0 ≤ th) (h2 : th + h < 18446744073709551616) (hn : L0.length ≤ 4096) :
    Calls Try.prog 27 #[.pointer (some ⟨bl, 0, none⟩), .int .i64 at', .int .u64 h] w fun e w' => e = .returned (.tuple #[]) ∧ Rec bl (L0 ++ [p]) at' h th w w' := by
  rcases hl.form with ⟨_, e⟩ | ⟨g, cap, rfl, hg, hc, hf⟩
  · simp at e
  have en : (L0 ++ [p]).length = L0.length + 1 := by simp
  have HL : Hid (Lg w bl (.slice (some ⟨g, 0, none⟩) (L0 ++ [p]).length cap) (L0 ++ [p]) th) := hl
  have h3 := hl.setTh (th + h)
  obtain ⟨w1, e1⟩ : ∃ w1, w1 = w.setCell ⟨bl, 1, none⟩ (.int .u64 (th + h)) := ⟨_, rfl⟩
  have k0 := hl.c0
  have k1 := hl.c1
  have f1 := hl.fz 1
  have k0' := h3.c0
  have k1' := h3.c1
  have kc : (w.setCell ⟨bl, 1, none⟩ (.int .u64 (th + h))).cell? ⟨g, L0.length * 2, none⟩ = some (.int .i64 at') := by
    rw [World.cell?_setCell_other _ _ _ _ (by first | (simp; omega) | (simp; done) | omega), (hc L0.length (by rw [en]; omega)).1]
    simp [hp]
  have kd : (w.setCell ⟨bl, 1, none⟩ (.int .u64 (th + h))).cell? ⟨g, L0.length * 2 + 1, none⟩ = some (.int .u64 p.2) := by
    rw [World.cell?_setCell_other _ _ _ _ (by first | (simp; omega) | (simp; done) | omega), (hc L0.length (by rw [en]; omega)).2]
    simp
  have ke : (w.setCell ⟨bl, 1, none⟩ (.int .u64 (th + h))).frozen? ⟨g, L0.length * 2 + 1, none⟩ = false := by
    rw [World.frozen?_setCell]; exact hf _
  have RR : Hid (Rec bl (L0 ++ [p]) at' h th w ((w.setCell ⟨bl, 1, none⟩ (.int .u64 (th + h))).drew.setCell ⟨g, L0.length * 2 + 1, none⟩ (.int .u64 (th + h)))) := by
    have bb : Below bl w ((w.setCell ⟨bl, 1, none⟩ (.int .u64 (th + h))).drew.setCell ⟨g, L0.length * 2 + 1, none⟩ (.int .u64 (th + h))) := Below.setCell (Below.drew (Below.setCell (Below.refl _ _) (by show bl ≤ bl; exact Nat.le_refl _) _)) (by show bl ≤ g; exact Nat.le_of_lt hg) _
    refine ⟨bb, _, _, h3.drew.same hg (th + h), .inl ⟨L0, p, rfl, hp, by rw [hp]⟩⟩
  rw [en] at k0 k0'
  clear h3 hl e1 w1 hc hf HL en
  have d0 : (h == 0) = false := by simp; omega
  have hn' : (L0.length : Int) ≤ 4096 := by omega
  go_enter Try.func27, Try.ntmps27
  go_wp2
  go_region
  all_goals go_wp2
  all_goals refine bodyPost_ret (results_none rfl _ _ _) rfl ?_
  all_goals exact ⟨rfl, RR.out⟩

set_option maxRecDepth 100000 in
set_option maxHeartbeats 2000000 in
theorem record_new (bl : Nat) (L : List (Int × Int)) (at' h th : Int) (v : Value) (w : World) (hl : Lg w bl v L th) (hp : ∀ L0 p, L = L0 ++ [p] → p.1 ≠ at') (h0 : 0 < h) (h1 : 0 ≤ th) (h2 : th + h < 18446744073709551616) (hn : L.length ≤ 4096) :
    Calls Try.prog 27 #[.pointer (some ⟨bl, 0, none⟩), .int .i64 at', .int .u64 h] w fun e w' => e = .returned (.tuple #[]) ∧ Rec bl L at' h th w w' := by
  obtain ⟨i0, hi, hz0, hz1, hz2⟩ := info_parts info51
  have HP : Hid (∀ L0 p, L = L0 ++ [p] → p.1 ≠ at') := hp
  clear hp
  have d0 : (h == 0) = false := by simp; omega
  have hn' : (L.length : Int) ≤ 4096 := by omega
  have h3 := hl.setTh (th + h)
  have k0 := hl.c0
  have k1 := hl.c1
  have f1 := hl.fz 1
  have k0' := h3.c0
  have k1' := h3.c1
  have hlt : bl < (w.setCell ⟨bl, 1, none⟩ (.int .u64 (th + h))).heap.size := h3.lt
  have B1 : Hid (Below bl w (w.setCell ⟨bl, 1, none⟩ (.int .u64 (th + h)))) := Below.setCell (Below.refl _ _) (by show bl ≤ bl; exact Nat.le_refl _) _
  have H3 : Hid (Lg (w.setCell ⟨bl, 1, none⟩ (.int .u64 (th + h))) bl v L (th + h)) := h3
  have hf := h3.form
  clear h3 hl
  have m1 : L.length + 1 ≤ maxLen := by unfold maxLen; omega
  have m2 : (L.length + 1) * 16 ≤ 140737488355328 := by omega
  have mb : ∀ o : Obj, bl + 1 ≤ ((w.setCell ⟨bl, 1, none⟩ (.int .u64 (th + h))).drew.alloc o).heap.size := fun o => by
    show bl + 1 ≤ ((w.setCell ⟨bl, 1, none⟩ (.int .u64 (th + h))).heap.push o).size
    rw [Array.size_push]; omega
  have one2 : ∀ u ∈ [Value.int .i64 at', .int .u64 (th + h)], u.oneCell' = true := by
    intro u hu
    simp at hu
    rcases hu with rfl | rfl <;> rfl
  rcases hf with ⟨rfl, rfl⟩ | ⟨g, cap, rfl, hg, hc, hf⟩
  · go_enter Try.func27, Try.ntmps27
    go_wp2
    generalize (w.setCell ⟨bl, 1, none⟩ (.int .u64 (th + h))) = ws at *
    go_region_law (refine step_append_lies _ rfl (.tmp 52) (.tmp 59) 47 rfl (bl + 1) 51 i0 (.agg #[.int .i64 0, .int .u64 0]) 2 16 Try.underlying47 hi hz0 hz1 hz2 rfl (by decide) (.slice none 0 0) ([] : List (Int × Int)).length (flat ([] : List (Int × Int))) (by simp [Act.eval, Act.put]) (H3.out.drew.own.alloc _) ⟨ws.heap.size, 0, none⟩ 1 1 [.int .i64 at', .int .u64 (th + h)] (by simp [Act.eval, Act.put]) rfl (two_news _ _ _ _) one2 (by decide) m1 m2 (mb _) _ rfl ?_; intro g' cap' w1 hown hgrow hat hlt'; have c0n := (H3.out.after hgrow).1; have f0n := (H3.out.after hgrow).2)
    all_goals go_end0
    all_goals exact ⟨rfl, rec_new B1.out H3.out hown hgrow HP.out⟩
  · have hL : ∃ L0 q, L = L0 ++ [q] ∨ L = [] := by
      rcases List.eq_nil_or_concat L with e | ⟨L0, q, e⟩
      · exact ⟨[], (0, 0), .inr e⟩
      · exact ⟨L0, q, .inl (by rw [e]; simp)⟩
    obtain ⟨L0, q, e | e⟩ := hL
    · have hq := HP.out L0 q e
      have dq : (q.1 == at') = false := by simpa using hq
      have en : L.length = L0.length + 1 := by rw [e]; simp
      have kc := (hc L0.length (by omega)).1
      have eq : (L.getD L0.length (0, 0)) = q := by rw [e]; simp
      rw [eq] at kc
      have hn2 : (L0.length : Int) ≤ 4096 := by omega
      have m3 : L0.length + 1 + 1 ≤ maxLen := by rw [← en]; exact m1
      have m4 : (L0.length + 1 + 1) * 16 ≤ 140737488355328 := by rw [← en]; exact m2
      have H4 : Hid ((w.setCell ⟨bl, 1, none⟩ (.int .u64 (th + h))).drew.ownsRow (bl + 1) 51 2 (.slice (some ⟨g, 0, none⟩) (L0.length + 1) cap) (L0.length + 1) (flat L)) := by
        have := H3.out.drew.own
        rw [en] at this
        exact this
      rw [en] at k0 k0' H3
      have EN : Hid (L.length = L0.length + 1) := en
      clear hc hf hq eq e en m1 m2 hn hn'
      go_enter Try.func27, Try.ntmps27
      go_wp2
      generalize (w.setCell ⟨bl, 1, none⟩ (.int .u64 (th + h))) = ws at *
      go_region_law (refine step_append_lies _ rfl (.tmp 52) (.tmp 59) 47 rfl (bl + 1) 51 i0 (.agg #[.int .i64 0, .int .u64 0]) 2 16 Try.underlying47 hi hz0 hz1 hz2 rfl (by decide) (.slice (some ⟨g, 0, none⟩) (L0.length + 1) cap) (L0.length + 1) (flat L) (by simp [Act.eval, Act.put]) (H4.out.alloc _) ⟨ws.heap.size, 0, none⟩ 1 1 [.int .i64 at', .int .u64 (th + h)] (by simp [Act.eval, Act.put]) rfl (two_news _ _ _ _) one2 (by decide) m3 m4 (mb _) _ rfl ?_; intro g' cap' w1 hown hgrow hat hlt'; have c0n := (H3.out.after hgrow).1; have f0n := (H3.out.after hgrow).2)
      all_goals go_end0
      all_goals refine ⟨rfl, ?_⟩
      all_goals have R := rec_new B1.out H3.out (by rw [EN.out]; exact hown) hgrow HP.out
      all_goals rw [EN.out] at R
      all_goals exact R
    · subst e
      go_enter Try.func27, Try.ntmps27
      go_wp2
      generalize (w.setCell ⟨bl, 1, none⟩ (.int .u64 (th + h))) = ws at *
      go_region_law (refine step_append_lies _ rfl (.tmp 52) (.tmp 59) 47 rfl (bl + 1) 51 i0 (.agg #[.int .i64 0, .int .u64 0]) 2 16 Try.underlying47 hi hz0 hz1 hz2 rfl (by decide) (.slice (some ⟨g, 0, none⟩) 0 cap) ([] : List (Int × Int)).length (flat ([] : List (Int × Int))) (by simp [Act.eval, Act.put]) (H3.out.drew.own.alloc _) ⟨ws.heap.size, 0, none⟩ 1 1 [.int .i64 at', .int .u64 (th + h)] (by simp [Act.eval, Act.put]) rfl (two_news _ _ _ _) one2 (by decide) m1 m2 (mb _) _ rfl ?_; intro g' cap' w1 hown hgrow hat hlt'; have c0n := (H3.out.after hgrow).1; have f0n := (H3.out.after hgrow).2)
      all_goals go_end0
      all_goals exact ⟨rfl, rec_new B1.out H3.out hown hgrow HP.out⟩

end Go.Proofs.Qxb6000630a
