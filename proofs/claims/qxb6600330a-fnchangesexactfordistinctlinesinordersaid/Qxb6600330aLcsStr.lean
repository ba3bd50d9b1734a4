import Derived.Test.Qxb6600330aStr
namespace Go.Proofs.Qxb6600330a
open Go.RowKit
set_option linter.unusedVariables false

/-- A number for a text, one for each. -/
def codL : List UInt8 → Nat
  | [] => 0
  | c :: t => c.toNat + 1 + 257 * codL t
theorem codL_inj : ∀ s t : List UInt8, codL s = codL t → s = t
  | [], [], _ => rfl
  | [], c :: t, h => by simp only [codL] at h; omega
  | c :: t, [], h => by simp only [codL] at h; omega
  | c :: s, d :: t, h => by
    simp only [codL] at h
    have h1 : c.toNat < 256 := c.toNat_lt
    have h2 : d.toNat < 256 := d.toNat_lt
    have h3 : c.toNat = d.toNat := by omega
    have h4 := codL_inj s t (by omega)
    rw [h4, UInt8.toNat_inj.1 h3]
def Cod (s : ByteArray) : Int := (codL s.data.toList : Nat)
theorem Cod.inj {s t : ByteArray} (h : Cod s = Cod t) : s = t := by
  unfold Cod at h
  exact Go.WideShapes.bytes_inj (codL_inj _ _ (by omega))
def cods (T : Nat → ByteArray) : Nat → Int := fun i => Cod (T i)
theorem cods_eq {T U : Nat → ByteArray} {i j : Nat} (h : T i = U j) : cods T i = cods U j := by unfold cods; rw [h]
theorem cods_inj {T U : Nat → ByteArray} {i j : Nat} (h : cods T i = cods U j) : T i = U j := Cod.inj h
theorem cods_ne {T U : Nat → ByteArray} {i j : Nat} (h : ¬ T i = U j) : ¬ cods T i = cods U j := fun e => h (Cod.inj e)
theorem str_true {s t : ByteArray} (h : s = t) : (s.toList == t.toList) = true := by rw [h]; simp
theorem str_false {s t : ByteArray} (h : ¬ s = t) : (s.toList == t.toList) = false := by
  cases e : s.toList == t.toList with
  | false => rfl
  | true =>
    exfalso
    have := eq_of_beq e
    rw [ByteArray.toList_eq, ByteArray.toList_eq] at this
    exact h (Go.WideShapes.bytes_inj this)

set_option maxRecDepth 100000 in
set_option maxHeartbeats 2000000 in
theorem lcsStr_any (ao bo : Option Addr) (l0 c0 l1 c1 : Nat) (T U : Nat → ByteArray) (w : World) (hl0 : l0 ≤ 4096) (hl1 : l1 ≤ 4096) (ha : StrSl w ao l0 T) (hb : StrSl w bo l1 U) :
    Calls Try.prog 31 #[.slice ao l0 c0, .slice bo l1 c1] w fun e w' => e = .returned (.int .i64 ((Plain.L (tab (cods T) (cods U)) l0 l1 : Nat) : Int)) ∧ Below w.heap.size w w' := by
  have mi := make_ints (l1 + 1) (by omega)
  rw [show ((l1 + 1 : Nat) : Int) = (l1 : Int) + 1 from by omega] at mi
  have HA : Hid (StrSl w ao l0 T) := ha
  have HB : Hid (StrSl w bo l1 U) := hb
  clear ha hb
  go_enter Try.func31, Try.ntmps31
  go_wp2_with fail
  obtain ⟨w1, e1⟩ : ∃ w1, w1 = (w.alloc (zeroInts (l1 + 1))).alloc (zeroInts (l1 + 1)) := ⟨_, rfl⟩
  rw [← e1]
  have hb1 : Hid (Below w.heap.size w w1) := by rw [e1]; exact ((Below.refl _ _).alloc (Nat.le_refl _) _).alloc (by simp) _
  have hp1 : Hid (w1.rowIs w.heap.size 3 (l1 + 1) (fun _ => .int .i64 0)) := by rw [e1]; exact (row_zeroInts (Go.Deep.blk_alloc_new _ _)).alloc _
  have hq1 : Hid (w1.rowIs (w.heap.size + 1) 3 (l1 + 1) (fun _ => .int .i64 0)) := by
    rw [e1]
    have := row_zeroInts (n := l1 + 1) (Go.Deep.blk_alloc_new (w.alloc (zeroInts (l1 + 1))) (zeroInts (l1 + 1)))
    rw [Go.Deep.nblk_alloc] at this
    exact this
  clear e1 mi
  go_loopw [6, 7, 8] (fun v6 v7 v8 wr => ∃ (i p q : Nat) (C : Nat → Int), i ≤ l0 ∧ v6 = .slice (some ⟨p, 0, none⟩) (l1 + 1) (l1 + 1) ∧ v7 = .slice (some ⟨q, 0, none⟩) (l1 + 1) (l1 + 1) ∧ v8 = .int .i64 (i : Int) ∧ Hid (p ≠ q ∧ w.heap.size ≤ p ∧ w.heap.size ≤ q ∧ wr.rowIs p 3 (l1 + 1) (fun j => .int .i64 ((Plain.L (tab (cods T) (cods U)) i j : Nat) : Int)) ∧ wr.rowIs q 3 (l1 + 1) (fun j => .int .i64 (C j)) ∧ Below w.heap.size w wr)) (fun v6 v7 v8 wr => l0 - (intOf v8).toNat)
  case atStart => exact ⟨0, w.heap.size, w.heap.size + 1, fun _ => 0, by omega, rfl, rfl, rfl, by omega, by omega, by omega, hp1.out, hq1.out, hb1.out⟩
  case round =>
    clear hb1 hp1 hq1
    obtain ⟨i, p, q, C, hi, rfl, rfl, rfl, hw⟩ := hrel
    have cz := hw.out.2.2.2.2.1.cell (i := 0) (by omega)
    have fz := hw.out.2.2.2.2.1.frozen 0
    have ce := hw.out.2.2.2.1.cell (i := l1) (by omega)
    by_cases q1 : (i : Int) < l0
    · obtain ⟨ba, oa, rfl, hra⟩ := HA.out (by omega)
      have HRA : Hid (∀ i, i < l0 → w.cell? ⟨ba, oa + i, none⟩ = some (.string (T i))) := hra
      clear hra HA ce
      go_wp2_with fail
      obtain ⟨w2, e2⟩ : ∃ w2, w2 = wr.setCell ⟨q, 0, none⟩ (.int .i64 0) := ⟨_, rfl⟩
      rw [← e2]
      have hw2 : Hid (p ≠ q ∧ w.heap.size ≤ p ∧ w.heap.size ≤ q ∧ w2.rowIs p 3 (l1 + 1) (fun j => .int .i64 ((Plain.L (tab (cods T) (cods U)) i j : Nat) : Int)) ∧ w2.rowIs q 3 (l1 + 1) (fun j => .int .i64 (upd C 0 0 j)) ∧ Below w.heap.size w w2) := by
        obtain ⟨n1, n2, n3, n4, n5, n6⟩ := hw.out
        rw [e2]
        exact ⟨n1, n2, n3, n4.setOther n1 _, row_upd n5 0 0, n6.setCell n3 _⟩
      clear e2 cz fz hw
      obtain ⟨wo, ewo⟩ : ∃ wo : World, wo = wr := ⟨_, rfl⟩
      clear ewo
      go_loopw [9] (fun v9 wr => ∃ (j : Nat) (C : Nat → Int), j ≤ l1 ∧ v9 = .int .i64 (j : Int) ∧ Hid (wr.rowIs p 3 (l1 + 1) (fun j => .int .i64 ((Plain.L (tab (cods T) (cods U)) i j : Nat) : Int)) ∧ wr.rowIs q 3 (l1 + 1) (fun j => .int .i64 (C j)) ∧ (∀ t, t ≤ j → C t = ((Plain.L (tab (cods T) (cods U)) (i + 1) t : Nat) : Int)) ∧ Below w.heap.size w wr)) (fun v9 wr => l1 - (intOf v9).toNat)
      case atStart => exact ⟨0, upd C 0 0, by omega, rfl, hw2.out.2.2.2.1, hw2.out.2.2.2.2.1, lrow_start _ _ _, hw2.out.2.2.2.2.2⟩
      case round =>
        obtain ⟨j, C2, hj, rfl, hw3⟩ := hrel
        by_cases q2 : (j : Int) < l1
        · obtain ⟨bb, ob, rfl, hrb⟩ := HB.out (by omega)
          have ka : wr.cell? ⟨ba, oa + i, none⟩ = some (.string (T i)) := cell_later hw3.out.2.2.2 (HRA.out i (by omega))
          have kb : wr.cell? ⟨bb, ob + j, none⟩ = some (.string (U j)) := cell_later hw3.out.2.2.2 (hrb j (by omega))
          have p0 := hw3.out.1.cell (i := j) (by omega)
          have p1 := hw3.out.1.cell (i := j + 1) (by omega)
          have c0' := hw3.out.2.1.cell (i := j) (by omega)
          have c1' := hw3.out.2.1.cell (i := j + 1) (by omega)
          have f1 := hw3.out.2.1.frozen (j + 1)
          rw [hw3.out.2.2.1 j (by omega)] at c0'
          obtain ⟨x0, ex0⟩ : ∃ x0 : Int, x0 = ((Plain.L (tab (cods T) (cods U)) i j : Nat) : Int) := ⟨_, rfl⟩
          obtain ⟨x1, ex1⟩ : ∃ x1 : Int, x1 = ((Plain.L (tab (cods T) (cods U)) i (j + 1) : Nat) : Int) := ⟨_, rfl⟩
          obtain ⟨x2, ex2⟩ : ∃ x2 : Int, x2 = ((Plain.L (tab (cods T) (cods U)) (i + 1) j : Nat) : Int) := ⟨_, rfl⟩
          rw [← ex0] at p0
          rw [← ex1] at p1
          rw [← ex2] at c0'
          have u0 := L_upto (tab (cods T) (cods U)) i j l1 (by omega) hl1
          have u1 := L_upto (tab (cods T) (cods U)) i (j + 1) l1 (by omega) hl1
          have u2 := L_upto (tab (cods T) (cods U)) (i + 1) j l1 (by omega) hl1
          rw [← ex0] at u0
          rw [← ex1] at u1
          rw [← ex2] at u2
          obtain ⟨u0a, u0b⟩ := u0
          obtain ⟨u1a, u1b⟩ := u1
          obtain ⟨u2a, u2b⟩ := u2
          have HX : Hid (x0 = ((Plain.L (tab (cods T) (cods U)) i j : Nat) : Int) ∧ x1 = ((Plain.L (tab (cods T) (cods U)) i (j + 1) : Nat) : Int) ∧ x2 = ((Plain.L (tab (cods T) (cods U)) (i + 1) j : Nat) : Int)) := ⟨ex0, ex1, ex2⟩
          have HNE : Hid (p ≠ q) := hw2.out.1
          clear ex0 ex1 ex2 hrb
          by_cases q3 : T i = U j
          · have d3 : ((T i).toList == (U j).toList) = true := str_true q3
            have HQ : Hid (T i = U j) := q3
            clear q3
            go_wp2_with fail
            go_quiet (fail)
            go_wp2
            go_roundw
            case rel =>
              obtain ⟨n1, n2, n3, n4⟩ := hw3.out
              refine ⟨j + 1, upd C2 (j + 1) (x0 + 1), by omega, by go_num, ?_⟩
              exact ⟨World.rowIs.setOther (w := wr.drewN nq) n1 HNE.out _, row_upd (w := wr.drewN nq) n2 _ _, lrow_put n3 (lrow_hit (cods_eq HQ.out) HX.out.1), Below.setCell (w := wr.drewN nq) (below_drewN n4 nq) hw2.out.2.2.1 _⟩
            case measure => simp [intOf]; omega
          · have d3 : ((T i).toList == (U j).toList) = false := str_false q3
            have HQ : Hid (¬ T i = U j) := q3
            clear q3
            by_cases q4 : x2 ≤ x1
            · go_wp2_with fail
              go_quiet (fail)
              generalize nq = n1
              go_wp2_with fail
              go_quiet (fail)
              go_wp2
              go_roundw
              case rel =>
                obtain ⟨n1', n2', n3', n4'⟩ := hw3.out
                refine ⟨j + 1, upd C2 (j + 1) x1, by omega, by go_num, ?_⟩
                exact ⟨World.rowIs.setOther (w := wr.drewN (n1 + nq)) n1' HNE.out _, row_upd (w := wr.drewN (n1 + nq)) n2' _ _, lrow_put n3' (by rw [← lrow_miss (cods_ne HQ.out) HX.out.2.1 HX.out.2.2]; omega), Below.setCell (w := wr.drewN (n1 + nq)) (below_drewN n4' _) hw2.out.2.2.1 _⟩
              case measure => simp [intOf]; omega
            · go_wp2_with fail
              go_quiet (fail)
              generalize nq = n1
              go_wp2_with fail
              go_quiet (fail)
              go_wp2
              go_roundw
              case rel =>
                obtain ⟨n1', n2', n3', n4'⟩ := hw3.out
                refine ⟨j + 1, upd C2 (j + 1) x2, by omega, by go_num, ?_⟩
                exact ⟨World.rowIs.setOther (w := wr.drewN (n1 + nq)) n1' HNE.out _, row_upd (w := wr.drewN (n1 + nq)) n2' _ _, lrow_put n3' (by rw [← lrow_miss (cods_ne HQ.out) HX.out.2.1 HX.out.2.2]; omega), Below.setCell (w := wr.drewN (n1 + nq)) (below_drewN n4' _) hw2.out.2.2.1 _⟩
              case measure => simp [intOf]; omega
        · go_wp2_with fail
          obtain ⟨n1, n2, n3, n4⟩ := hw3.out
          go_roundw
          case rel =>
            refine ⟨i + 1, q, p, fun j => ((Plain.L (tab (cods T) (cods U)) i j : Nat) : Int), by omega, rfl, rfl, by go_num, fun e => hw2.out.1 e.symm, hw2.out.2.2.1, hw2.out.2.1, n2.congr fun t ht => ?_, n1, n4⟩
            rw [n3 t (by omega)]
          case measure => simp [intOf]; omega
    · go_wp2
      go_ret
      obtain rfl : i = l0 := by omega
      exact ⟨rfl, hw.out.2.2.2.2.2⟩

end Go.Proofs.Qxb6600330a
