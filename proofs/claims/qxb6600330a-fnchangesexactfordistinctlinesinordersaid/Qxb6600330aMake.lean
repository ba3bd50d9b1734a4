import Derived.Test.Qxb6600330aWorld
import Derived.Test.Qxb6600330aLit
namespace Go.Proofs.Qxb6600330a
open Go.RowKit
set_option linter.unusedVariables false
set_option linter.unusedSimpArgs false

theorem info3 : (Try.prog.info? 3).map (fun i => (i.zero, i.size, i.bytes)) = some (some (.int .i64 0), 1, 8) := by kernel_rfl
theorem info4 : (Try.prog.info? 4).map (fun i => (i.zero, i.size, i.bytes)) = some (some (.bool false), 1, 1) := by kernel_rfl

def zeroInts (n : Nat) : Obj := .cells (madeCells #[.int .i64 0] n) 3
def zeroBools (n : Nat) : Obj := .cells (madeCells #[.bool false] n) 4

theorem make_bools (n : Nat) (h : n ≤ 100000) (w : World) : (Instr.makeSlice 27 (.int .i64 (n : Int)) (.int .i64 (n : Int))).run Try.prog w = .ok (.slice (some ⟨w.heap.size, 0, none⟩) n n) (w.alloc (zeroBools n)) :=
  run_make_row' 27 4 (.bool false) 1 Try.underlying27 info4 rfl .i64 .i64 n (by omega) (by omega) w
theorem make_ints (n : Nat) (h : n ≤ 100000) (w : World) : (Instr.makeSlice 22 (.int .i64 (n : Int)) (.int .i64 (n : Int))).run Try.prog w = .ok (.slice (some ⟨w.heap.size, 0, none⟩) n n) (w.alloc (zeroInts n)) :=
  run_make_row' 22 3 (.int .i64 0) 8 Try.underlying22 info3 rfl .i64 .i64 n (by omega) (by omega) w
theorem row_zeroInts {w : World} {b n : Nat} (h : w.heap[b]? = some (zeroInts n)) : w.rowIs b 3 n (fun _ => .int .i64 0) :=
  ⟨_, h, size_madeCells _ _, fun i hi => by simp [madeCells, hi, Nat.mod_one]⟩
theorem row_zeroBools {w : World} {b n : Nat} (h : w.heap[b]? = some (zeroBools n)) : w.rowIs b 4 n (fun _ => .bool false) :=
  ⟨_, h, size_madeCells _ _, fun i hi => by simp [madeCells, hi, Nat.mod_one]⟩

section
variable (w : World) (o1 o2 o3 o4 o5 : Obj)
theorem heap5_0 : (((((w.alloc o1).alloc o2).alloc o3).alloc o4).alloc o5).drew.heap[w.heap.size]? = some o1 := by
  show (((((w.heap.push o1).push o2).push o3).push o4).push o5)[w.heap.size]? = some o1
  simp only [Array.getElem?_push, Array.size_push]
  simp only [Nat.add_assoc]
  simp
theorem heap5_1 : (((((w.alloc o1).alloc o2).alloc o3).alloc o4).alloc o5).drew.heap[w.heap.size + 1]? = some o2 := by
  show (((((w.heap.push o1).push o2).push o3).push o4).push o5)[w.heap.size + 1]? = some o2
  simp only [Array.getElem?_push, Array.size_push]
  simp only [Nat.add_assoc]
  simp
theorem heap5_2 : (((((w.alloc o1).alloc o2).alloc o3).alloc o4).alloc o5).drew.heap[w.heap.size + 1 + 1]? = some o3 := by
  show (((((w.heap.push o1).push o2).push o3).push o4).push o5)[w.heap.size + 1 + 1]? = some o3
  simp only [Array.getElem?_push, Array.size_push]
  simp only [Nat.add_assoc]
  simp
theorem heap5_3 : (((((w.alloc o1).alloc o2).alloc o3).alloc o4).alloc o5).drew.heap[w.heap.size + 1 + 1 + 1]? = some o4 := by
  show (((((w.heap.push o1).push o2).push o3).push o4).push o5)[w.heap.size + 1 + 1 + 1]? = some o4
  simp only [Array.getElem?_push, Array.size_push]
  simp only [Nat.add_assoc]
  simp
theorem heap5_4 : (((((w.alloc o1).alloc o2).alloc o3).alloc o4).alloc o5).drew.heap[w.heap.size + 1 + 1 + 1 + 1]? = some o5 := by
  show (((((w.heap.push o1).push o2).push o3).push o4).push o5)[w.heap.size + 1 + 1 + 1 + 1]? = some o5
  simp only [Array.getElem?_push, Array.size_push]
  simp only [Nat.add_assoc]
  simp
theorem heap5_below : Below w.heap.size w (((((w.alloc o1).alloc o2).alloc o3).alloc o4).alloc o5).drew :=
  (((((((Below.refl _ _).alloc (Nat.le_refl _) o1)).alloc (by simp) o2).alloc (by simp; omega) o3).alloc (by simp; omega) o4).alloc (by simp; omega) o5).drew
end

/-- A new differ in memory. -/
structure NewD (w w' : World) (va vb : Value) (N M mc : Nat) (bd br bad bf bk : Nat) : Prop where
  hd : w'.heap[bd]? = some (.cells #[va, vb, .slice (some ⟨br, 0, none⟩) N N, .slice (some ⟨bad, 0, none⟩) M M, .slice (some ⟨bf, 0, none⟩) (2 * mc + 3) (2 * mc + 3), .slice (some ⟨bk, 0, none⟩) (2 * mc + 3) (2 * mc + 3), .int .i64 mc] 53)
  hr : w'.heap[br]? = some (zeroBools N)
  ha : w'.heap[bad]? = some (zeroBools M)
  hf : w'.heap[bf]? = some (zeroInts (2 * mc + 3))
  hk : w'.heap[bk]? = some (zeroInts (2 * mc + 3))
  ge : w.heap.size ≤ bd ∧ w.heap.size ≤ br ∧ w.heap.size ≤ bad ∧ w.heap.size ≤ bf ∧ w.heap.size ≤ bk
  ne : bd ≠ br ∧ bd ≠ bad ∧ bd ≠ bf ∧ bd ≠ bk ∧ br ≠ bad ∧ br ≠ bf ∧ br ≠ bk ∧ bad ≠ bf ∧ bad ≠ bk ∧ bf ≠ bk
  below : Below w.heap.size w w'

theorem cell_of_block {w : World} {b i : Nat} {c : Array Value} {t : TypeId} {v : Value} (h : w.heap[b]? = some (.cells c t)) (hc : c[i]? = some v) : w.cell? ⟨b, i, none⟩ = some v := by
  simp [World.cell?, h, hc]
theorem NewD.dw {w w' : World} {va vb : Value} {N M mc bd br bad bf bk : Nat} (h : NewD w w' va vb N M mc bd br bad bf bk) : DW w' bd va vb (.slice (some ⟨br, 0, none⟩) N N) (.slice (some ⟨bad, 0, none⟩) M M) bf bk mc :=
  ⟨cell_of_block h.hd rfl, cell_of_block h.hd rfl, cell_of_block h.hd rfl, cell_of_block h.hd rfl, cell_of_block h.hd rfl, cell_of_block h.hd rfl, cell_of_block h.hd rfl⟩
theorem NewD.tw {w w' : World} {va vb : Value} {N M mc bd br bad bf bk : Nat} (h : NewD w w' va vb N M mc bd br bad bf bk) : TW w' bf bk mc (fun _ => 0) (fun _ => 0) :=
  ⟨row_zeroInts h.hf, row_zeroInts h.hk, h.ne.2.2.2.2.2.2.2.2.2⟩

end Go.Proofs.Qxb6600330a
