import Derived.Test.Qxb6600330aNumb
namespace Go.Proofs.Qxb6600330a
open Go.RowKit Go.Maps
set_option linter.unusedVariables false

/-- What lineIDs answers: equal lines, and they alone, share a number. -/
def RetL (w : World) (N M : Nat) (T U : Nat → ByteArray) (e : Ending) (w' : World) : Prop :=
  ∃ (ba bb : Nat) (g : ByteArray → Int), e = .returned (.tuple #[.slice (some ⟨ba, 0, none⟩) N N, .slice (some ⟨bb, 0, none⟩) M M]) ∧ w'.rowIs ba 3 N (fun i => .int .i64 (g (T i))) ∧ w'.rowIs bb 3 M (fun j => .int .i64 (g (U j))) ∧
    (∀ s t, ((∃ i, i < N ∧ T i = s) ∨ ∃ j, j < M ∧ U j = s) → ((∃ i, i < N ∧ T i = t) ∨ ∃ j, j < M ∧ U j = t) → g s = g t → s = t) ∧ Below w.heap.size w w'

set_option maxRecDepth 100000 in
set_option maxHeartbeats 2000000 in
theorem lineIDs_any (ao bo : Option Addr) (N c M d : Nat) (T U : Nat → ByteArray) (w : World) (hN : N ≤ 4096) (hM : M ≤ 4096) (ha : StrSl w ao N T) (hb : StrSl w bo M U) (hsT : ∀ i, i < N → (T i).size ≤ maxLen) (hsU : ∀ i, i < M → (U i).size ≤ maxLen) :
    Calls Try.prog 43 #[.slice ao N c, .slice bo M d] w (RetL w N M T U) := by
  have HA : Hid (StrSl w ao N T ∧ StrSl w bo M U ∧ (∀ i, i < N → (T i).size ≤ maxLen) ∧ ∀ i, i < M → (U i).size ≤ maxLen) := ⟨ha, hb, hsT, hsU⟩
  clear ha hb hsT hsU
  have hmm := @run_makeMap Try.prog
  go_enter Try.func43, Try.ntmps43
  go_wp2_with fail
  have bel : Hid (Below w.heap.size w ((w.alloc (Obj.map #[] 0)).alloc (Obj.cells #[Value.map (some w.heap.size)] 65))) := ((Below.refl _ _).alloc (Nat.le_refl _) _).alloc (by simp) _
  have X0 : Hid (MapIn ((w.alloc (Obj.map #[] 0)).alloc (Obj.cells #[Value.map (some w.heap.size)] 65)) w.heap.size 0 0 (fun _ => 0) (.map []) ∧ ((w.alloc (Obj.map #[] 0)).alloc (Obj.cells #[Value.map (some w.heap.size)] 65)).cell? ⟨w.heap.size + 1, 0, none⟩ = some (.map (some w.heap.size)) ∧ w.heap.size + 1 < ((w.alloc (Obj.map #[] 0)).alloc (Obj.cells #[Value.map (some w.heap.size)] 65)).heap.size) := by
    refine ⟨⟨?_, ids_start, Nat.le_refl _⟩, by simp, by simp⟩
    obtain ⟨es, clock, h1, h2⟩ := World.ownsMap_made (H := Unit) w Try.prog 9 (plainElem Try.prog 3)
    exact ⟨es, clock, by rw [Below.heap_alloc _ _ _ (by simp)]; exact h1, h2⟩
  generalize ((w.alloc (Obj.map #[] 0)).alloc (Obj.cells #[Value.map (some w.heap.size)] 65)) = w0 at bel X0 ⊢
  clear hmm
  have blT : 0 < N → ∀ b o, ao = some ⟨b, o, none⟩ → b ≠ w.heap.size := fun h0 b o e => by
    obtain ⟨b', o', e', r⟩ := HA.out.1 h0
    have := World.block_lt_of_cell? _ _ (r 0 h0)
    rw [e] at e'
    have : b = b' := by simpa using congrArg (fun x => x.map (·.block)) e'
    simp at *
    omega
  have blU : 0 < M → ∀ b o, bo = some ⟨b, o, none⟩ → b ≠ w.heap.size := fun h0 b o e => by
    obtain ⟨b', o', e', r⟩ := HA.out.2.1 h0
    have := World.block_lt_of_cell? _ _ (r 0 h0)
    rw [e] at e'
    have : b = b' := by simpa using congrArg (fun x => x.map (·.block)) e'
    simp at *
    omega
  have BU : Hid (0 < M → ∀ b o, bo = some ⟨b, o, none⟩ → b ≠ w.heap.size) := blU
  refine (number_any ao N c w.heap.size (w.heap.size + 1) 0 0 T (fun _ => 0) (.map []) w0 hN (by omega) (HA.out.1.kept bel.out) HA.out.2.2.1 X0.out.1 (by have := X0.out.2.2; omega) (by omega) X0.out.2.1 blT).mono ?_
  rintro e w1 ⟨ba, n1, g1, D1, rfl, b1, m1, x1, h1, r1, q1⟩
  have F1 : Hid (w0.heap.size ≤ ba ∧ MapIn w1 w.heap.size (0 + N) n1 g1 D1 ∧ (∀ i, i < N → Maps.has D1 (kl (T i)) = true) ∧ w1.rowIs ba 3 N (fun i => .int .i64 (g1 (T i))) ∧ Kept (fun b => b = w.heap.size) w0 w1) := ⟨b1, m1, h1, r1, q1⟩
  clear b1 m1 x1 h1 r1 q1 blT blU
  go_wp2_with fail
  have SU : StrSl w1 bo M U := fun h0 => by
    obtain ⟨b, o, e, r⟩ := HA.out.2.1 h0
    exact ⟨b, o, e, fun i hi => F1.out.2.2.2.2.cell (cell_later bel.out (r i hi)) (BU.out h0 b o e)⟩
  refine (number_any bo M d w.heap.size (w.heap.size + 1) (0 + N) n1 U g1 D1 w1 hM (by omega) SU HA.out.2.2.2 F1.out.2.1 (by have := X0.out.2.2; have := F1.out.2.2.2.2.size; omega) (by omega) (F1.out.2.2.2.2.cell X0.out.2.1 (by show ¬ w.heap.size + 1 = w.heap.size; omega)) BU.out).mono ?_
  rintro e w2 ⟨bb, n2, g2, D2, rfl, b2, m2, x2, h2, r2, q2⟩
  have F2 : Hid (RetL w N M T U (.returned (.tuple #[.slice (some ⟨ba, 0, none⟩) N N, .slice (some ⟨bb, 0, none⟩) M M])) w2) := by
    refine ⟨ba, bb, g2, rfl, ?_, r2, fun s t hs ht he => ?_, ?_⟩
    · refine (q2.row F1.out.2.2.2.1 (by have := F1.out.1; have := X0.out.2.2; show ¬ ba = w.heap.size; omega)).congr fun i hi => ?_
      rw [(x2 (T i) (F1.out.2.2.1 i hi)).2]
    · have hh : ∀ s, ((∃ i, i < N ∧ T i = s) ∨ ∃ j, j < M ∧ U j = s) → Maps.has D2 (kl s) = true := by
        rintro s (⟨i, hi, rfl⟩ | ⟨j, hj, rfl⟩)
        · exact (x2 (T i) (F1.out.2.2.1 i hi)).1
        · exact h2 j hj
      exact m2.2.1.inj s t (hh s hs) (hh t ht) he
    · have k1 : Below w.heap.size w0 w1 := F1.out.2.2.2.2.below bel.out.size (fun k hk => by omega)
      have k2 : Below w.heap.size w1 w2 := q2.below (Nat.le_trans bel.out.size F1.out.2.2.2.2.size) (fun k hk => by omega)
      exact (bel.out.trans k1).trans k2
  clear b2 m2 x2 h2 r2 q2 F1 BU
  go_wp2_with fail
  go_ret2
  exact F2.out

end Go.Proofs.Qxb6600330a
