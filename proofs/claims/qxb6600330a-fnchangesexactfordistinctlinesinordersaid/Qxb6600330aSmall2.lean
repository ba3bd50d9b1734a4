import Derived.Test.Qxb6600330aMake
import Derived.WalkSmall
import Derived.BigQuiet
namespace Go.Proofs.Qxb6600330a
open Go.RowKit
set_option linter.unusedVariables false

set_option maxHeartbeats 400000 in
theorem premise_short (a0 a1 : Option Addr) (l0 c0 l1 c1 : Nat) (w : World) (h : l0 = 0 ∨ l1 = 0) :
    Calls Try.prog 20 #[.slice a0 l0 c0, .slice a1 l1 c1] w fun e w' => e = .returned (.bool false) ∧ w' = w := by
  have H : Hid (l0 = 0 ∨ l1 = 0) := h
  clear h
  by_cases q : (l0 : Int) < 1
  · go_enter Try.func20, Try.ntmps20
    go_wp2
    go_ret
    exact ⟨rfl, rfl⟩
  · have q1 : (l1 : Int) < 1 := by have := H.out; omega
    go_enter Try.func20, Try.ntmps20
    go_wp2
    go_ret
    exact ⟨rfl, rfl⟩

set_option maxHeartbeats 1000000 in
theorem premise_any (b0 o0 b1 o1 : Nat) (l0 c0 l1 c1 : Nat) (Z0 Z1 : Nat → Int) (w : World) (h0 : 1 ≤ l0) (h1 : 1 ≤ l1) (hl0 : l0 ≤ 4096) (hl1 : l1 ≤ 4096) (r0 : IntRow w b0 o0 l0 Z0) (r1 : IntRow w b1 o1 l1 Z1) :
    Calls Try.prog 20 #[.slice (some ⟨b0, o0, none⟩) l0 c0, .slice (some ⟨b1, o1, none⟩) l1 c1] w fun e w' => ∃ b : Bool, e = .returned (.bool b) ∧ (b = true ↔ (¬ Z0 0 = Z1 0 ∧ ¬ Z0 (l0 - 1) = Z1 (l1 - 1))) ∧ Below w.heap.size w w' := by
  have k0 := r0 0 (by omega)
  have k1 := r1 0 (by omega)
  have k2 := r0 (l0 - 1) (by omega)
  have k3 := r1 (l1 - 1) (by omega)
  rw [Nat.add_zero] at k0 k1
  clear r0 r1
  have i0 : (1 : Int) ≤ (l0 : Int) := by omega
  have i1 : (1 : Int) ≤ (l1 : Int) := by omega
  by_cases q : Z0 0 = Z1 0
  · have d : (Z0 0 != Z1 0) = false := by simpa using q
    have HQ : Hid (Z0 0 = Z1 0) := q
    clear q
    go_enter Try.func20, Try.ntmps20
    go_wp2_with fail
    go_quiet (fail)
    go_wp2
    go_ret
    exact ⟨false, rfl, by simp [HQ.out], below_drewN (Below.refl _ _) _⟩
  · have d : (Z0 0 != Z1 0) = true := by simpa using q
    go_enter Try.func20, Try.ntmps20
    go_wp2_with fail
    go_quiet (fail)
    go_wp2
    go_ret
    exact ⟨_, rfl, by simp [q], below_drewN (Below.refl _ _) _⟩

theorem is_nil (a : Option Addr) (n c : Nat) (w : World) : (binOp .eql 22 (.slice a n c) (.slice none 0 0)).run Try.prog w = .ok (.bool a.isNone) w :=
  Lib.run_eql_slice_nil w 22 3 a n c 0 0 Try.underlying22

/-- cloneInt of nil. -/
theorem clone_nil (w : World) : Calls Try.prog 13 #[.slice none 0 0] w fun e w' => e = .returned (.slice none 0 0) ∧ w' = w := by
  have hn := is_nil none 0 0
  go_enter Try.func13, Try.ntmps13
  go_wp2
  go_ret
  exact ⟨rfl, rfl⟩

set_option maxHeartbeats 1000000 in
theorem clone_any (ad : Addr) (l c : Nat) (Z : Nat → Int) (w : World) (hl : l ≤ 4096) (hr : ∀ i, i < l → w.cell? ⟨ad.block, ad.off + i, none⟩ = some (.int .i64 (Z i))) (hs : 0 < l → ad.spot = none) :
    Calls Try.prog 13 #[.slice (some ad) l c] w fun e w' => ∃ b, e = .returned (.slice (some ⟨b, 0, none⟩) l l) ∧ w'.rowIs b 3 l (fun i => .int .i64 (Z i)) ∧ w.heap.size ≤ b ∧ Below w.heap.size w w' := by
  have hn := is_nil (some ad) l c
  have mi := make_ints l (by omega)
  go_enter Try.func13, Try.ntmps13
  go_wp2_with fail
  obtain ⟨w1, e1⟩ : ∃ w1, w1 = w.alloc (zeroInts l) := ⟨_, rfl⟩
  have hb1 : Hid (Below w.heap.size w w1) := by rw [e1]; exact (Below.refl _ _).alloc (Nat.le_refl _) _
  have hr1 : Hid (w1.rowIs w.heap.size 3 l (fun _ => .int .i64 0)) := by rw [e1]; exact row_zeroInts (Go.Deep.blk_alloc_new _ _)
  rw [← e1]
  obtain ⟨bc, ebc⟩ : ∃ bc, bc = w.heap.size := ⟨_, rfl⟩
  have HC : Hid (bc = w.heap.size) := ebc
  rw [← ebc]
  have hr2 : Hid (w1.rowIs bc 3 l (fun _ => .int .i64 0)) := by rw [ebc]; exact hr1.out
  clear e1 ebc hr1
  go_loopw [4] (fun v wr => ∃ k : Nat, k ≤ l ∧ v = .int .i64 (k : Int) ∧ Hid (wr.rowIs bc 3 l (fun j => .int .i64 (if j < k then Z j else 0))) ∧ Hid (Below w.heap.size w wr)) (fun v wr => l - (intOf v).toNat)
  case atStart => exact ⟨0, by omega, rfl, hr2.out.congr fun i _ => by simp, hb1.out⟩
  case round =>
    obtain ⟨k, hk, rfl, hrow, hbw⟩ := hrel
    by_cases q : (k : Int) < l
    · obtain ⟨ab, ao, sp⟩ := ad
      obtain rfl : sp = none := hs (by omega)
      have c1 : wr.cell? ⟨ab, ao + k, none⟩ = some (.int .i64 (Z k)) := cell_later hbw.out (hr k (by omega))
      have c2 := hrow.out.cell (i := k) (by omega)
      have c3 := hrow.out.frozen k
      have i1 : (0 : Int) ≤ (k : Int) := by omega
      have HN : Hid (wr.cell? ⟨bc, k, none⟩ = some (.int .i64 (if k < k then Z k else 0))) := c2
      have c2' : wr.cell? ⟨bc, k, none⟩ = some (.int .i64 0) := by have := c2; simpa using this
      clear c2
      go_wp2
      go_roundw
      case rel =>
        refine ⟨k + 1, by omega, by go_num, ?_, ?_⟩
        · refine (hrow.out.set k _).congr fun j hj => ?_
          show (if j = k then Value.int .i64 (Z k) else .int .i64 (if j < k then Z j else 0)) = .int .i64 (if j < k + 1 then Z j else 0)
          by_cases e : j = k
          · subst e; simp
          · rw [if_neg e]
            by_cases e2 : j < k
            · rw [if_pos e2, if_pos (by omega)]
            · rw [if_neg e2, if_neg (by omega)]
        · exact hbw.out.setCell (by show w.heap.size ≤ bc; have := HC.out; omega) _
      case measure => simp [intOf]; omega
    · go_wp2
      go_ret
      obtain rfl : k = l := by omega
      exact ⟨bc, rfl, hrow.out.congr fun i hi => by simp [hi], by have := HC.out; omega, hbw.out⟩

end Go.Proofs.Qxb6600330a
