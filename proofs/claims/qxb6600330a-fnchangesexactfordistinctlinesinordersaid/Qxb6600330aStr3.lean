import Derived.Test.Qxb6600330aStr2
import Derived.Test.Qxb6600330aSmall2
namespace Go.Proofs.Qxb6600330a
open Go.RowKit
set_option linter.unusedVariables false

theorem info9 : (Try.prog.info? 9).map (fun i => (i.zero, i.size, i.bytes)) = some (some (.string ByteArray.empty), 1, 16) := by kernel_rfl
def zeroStrs (n : Nat) : Obj := .cells (madeCells #[.string ByteArray.empty] n) 9
theorem make_strs (n : Nat) (h : n ≤ 100000) (w : World) : (Instr.makeSlice 38 (.int .i64 (n : Int)) (.int .i64 (n : Int))).run Try.prog w = .ok (.slice (some ⟨w.heap.size, 0, none⟩) n n) (w.alloc (zeroStrs n)) :=
  run_make_row' 38 9 (.string ByteArray.empty) 16 Try.underlying38 info9 rfl .i64 .i64 n (by omega) (by omega) w
theorem row_zeroStrs {w : World} {b n : Nat} (h : w.heap[b]? = some (zeroStrs n)) : w.rowIs b 9 n (fun _ => .string ByteArray.empty) :=
  ⟨_, h, size_madeCells _ _, fun i hi => by simp [madeCells, hi, Nat.mod_one]⟩
theorem is_nil38 (a : Option Addr) (n c : Nat) (w : World) : (binOp .eql 38 (.slice a n c) (.slice none 0 0)).run Try.prog w = .ok (.bool a.isNone) w :=
  Lib.run_eql_slice_nil w 38 9 a n c 0 0 Try.underlying38

/-- cloneStr of nil. -/
theorem cloneStr_nil (w : World) : Calls Try.prog 27 #[.slice none 0 0] w fun e w' => e = .returned (.slice none 0 0) ∧ w' = w := by
  have hn := is_nil38 none 0 0
  go_enter Try.func27, Try.ntmps27
  go_wp2
  go_ret
  exact ⟨rfl, rfl⟩

set_option maxHeartbeats 1000000 in
theorem cloneStr_any (ad : Addr) (l c : Nat) (Z : Nat → ByteArray) (w : World) (hl : l ≤ 4096) (hr : ∀ i, i < l → w.cell? ⟨ad.block, ad.off + i, none⟩ = some (.string (Z i))) (hs : 0 < l → ad.spot = none) :
    Calls Try.prog 27 #[.slice (some ad) l c] w fun e w' => ∃ b, e = .returned (.slice (some ⟨b, 0, none⟩) l l) ∧ w'.rowIs b 9 l (fun i => .string (Z i)) ∧ w.heap.size ≤ b ∧ Below w.heap.size w w' := by
  have hn := is_nil38 (some ad) l c
  have mi := make_strs l (by omega)
  go_enter Try.func27, Try.ntmps27
  go_wp2_with fail
  obtain ⟨w1, e1⟩ : ∃ w1, w1 = w.alloc (zeroStrs l) := ⟨_, rfl⟩
  have hb1 : Hid (Below w.heap.size w w1) := by rw [e1]; exact (Below.refl _ _).alloc (Nat.le_refl _) _
  have hr1 : Hid (w1.rowIs w.heap.size 9 l (fun _ => .string ByteArray.empty)) := by rw [e1]; exact row_zeroStrs (Go.Deep.blk_alloc_new _ _)
  rw [← e1]
  obtain ⟨bc, ebc⟩ : ∃ bc, bc = w.heap.size := ⟨_, rfl⟩
  have HC : Hid (bc = w.heap.size) := ebc
  rw [← ebc]
  have hr2 : Hid (w1.rowIs bc 9 l (fun _ => .string ByteArray.empty)) := by rw [ebc]; exact hr1.out
  clear e1 ebc hr1
  go_loopw [4] (fun v wr => ∃ k : Nat, k ≤ l ∧ v = .int .i64 (k : Int) ∧ Hid (wr.rowIs bc 9 l (fun j => .string (if j < k then Z j else ByteArray.empty))) ∧ Hid (Below w.heap.size w wr)) (fun v wr => l - (intOf v).toNat)
  case atStart => exact ⟨0, by omega, rfl, hr2.out.congr fun i _ => by simp, hb1.out⟩
  case round =>
    obtain ⟨k, hk, rfl, hrow, hbw⟩ := hrel
    by_cases q : (k : Int) < l
    · obtain ⟨ab, ao, sp⟩ := ad
      obtain rfl : sp = none := hs (by omega)
      have c1 : wr.cell? ⟨ab, ao + k, none⟩ = some (.string (Z k)) := cell_later hbw.out (hr k (by omega))
      have c2 := hrow.out.cell (i := k) (by omega)
      have c3 := hrow.out.frozen k
      have i1 : (0 : Int) ≤ (k : Int) := by omega
      have HN : Hid (wr.cell? ⟨bc, k, none⟩ = some (.string (if k < k then Z k else ByteArray.empty))) := c2
      have c2' : wr.cell? ⟨bc, k, none⟩ = some (.string ByteArray.empty) := by have := c2; simpa using this
      clear c2
      go_wp2
      go_roundw
      case rel =>
        refine ⟨k + 1, by omega, by go_num, ?_, ?_⟩
        · refine (hrow.out.set k _).congr fun j hj => ?_
          show (if j = k then Value.string (Z k) else .string (if j < k then Z j else ByteArray.empty)) = .string (if j < k + 1 then Z j else ByteArray.empty)
          by_cases e : j = k
          · subst e; simp
          · rw [if_neg e]
            by_cases e2 : j < k
            · rw [if_pos e2, if_pos (by omega)]
            · rw [if_neg e2, if_neg (by omega)]
        · exact hbw.out.setCell (by show w.heap.size ≤ bc; have := HC.out; omega) _
      case measure => simp [intOf]; omega
    · go_wp2
      go_ret
      obtain rfl : k = l := by omega
      exact ⟨bc, rfl, hrow.out.congr fun i hi => by simp [hi], by have := HC.out; omega, hbw.out⟩

def CStr (w : World) (ao : Option Addr) (l : Nat) (T : Nat → ByteArray) : Prop := 0 < l → ∃ b, ao = some ⟨b, 0, none⟩ ∧ ∀ i, i < l → w.cell? ⟨b, i, none⟩ = some (.string (T i))
theorem CStr.later {w w' : World} {ao : Option Addr} {l : Nat} {T : Nat → ByteArray} (h : CStr w ao l T) (k : Below w.heap.size w w') : CStr w' ao l T := fun h0 => by
  obtain ⟨b, e, r⟩ := h h0
  exact ⟨b, e, fun i hi => cell_later k (r i hi)⟩
theorem CStr.sl {w : World} {ao : Option Addr} {l : Nat} {T : Nat → ByteArray} (h : CStr w ao l T) : StrSl w ao l T := fun h0 => by
  obtain ⟨b, e, r⟩ := h h0
  exact ⟨b, 0, e, fun i hi => by rw [Nat.zero_add]; exact r i hi⟩
/-- A slice of strings as it comes in. -/
def AStr (w : World) (ao : Option Addr) (l c : Nat) (T : Nat → ByteArray) : Prop :=
  (ao = none ∧ l = 0 ∧ c = 0) ∨ ∃ ad : Addr, ao = some ad ∧ (∀ i, i < l → w.cell? ⟨ad.block, ad.off + i, none⟩ = some (.string (T i))) ∧ (0 < l → ad.spot = none)
theorem AStr.sl {w : World} {ao : Option Addr} {l c : Nat} {T : Nat → ByteArray} (h : AStr w ao l c T) : StrSl w ao l T := fun h0 => by
  rcases h with ⟨_, h, _⟩ | ⟨ad, e, hc, hs⟩
  · omega
  · obtain ⟨b, o, s⟩ := ad
    obtain rfl : s = none := hs h0
    exact ⟨b, o, e, hc⟩
theorem AStr.later {w w' : World} {ao : Option Addr} {l c : Nat} {T : Nat → ByteArray} (h : AStr w ao l c T) (k : Below w.heap.size w w') : AStr w' ao l c T := by
  rcases h with h | ⟨ad, e, hc, hs⟩
  · exact .inl h
  · exact .inr ⟨ad, e, fun i hi => cell_later k (hc i hi), hs⟩
theorem cloneStr_opt (ao : Option Addr) (l c : Nat) (T : Nat → ByteArray) (w : World) (hl : l ≤ 4096) (h : AStr w ao l c T) :
    Calls Try.prog 27 #[.slice ao l c] w fun e w' => ∃ ao', e = .returned (.slice ao' l l) ∧ CStr w' ao' l T ∧ Below w.heap.size w w' := by
  rcases h with ⟨rfl, rfl, rfl⟩ | ⟨ad, rfl, hc, hs⟩
  · refine (cloneStr_nil w).mono ?_
    rintro e w' ⟨rfl, rfl⟩
    exact ⟨none, rfl, fun h => by omega, Below.refl _ _⟩
  · refine (cloneStr_any ad l c T w hl hc hs).mono ?_
    rintro e w' ⟨b, rfl, hr, hg, hb⟩
    exact ⟨_, rfl, fun _ => ⟨b, rfl, fun i hi => hr.cell hi⟩, hb⟩

end Go.Proofs.Qxb6600330a
