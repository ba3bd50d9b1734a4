import Derived.Test.Qxb6600330aRows
import Derived.Test.Qxb6600330aZzCompare
import Derived.Test.Qxb6600330aSmall3
import Derived.Test.Qxb6600330aAgree
import Derived.Test.Qxb6600330aAnchors
import Derived.WalkKit
import Derived.ProofKit
import Derived.OpenShut
import Derived.ShutString
import Derived.ChangeOld
import Derived.Below
namespace Go.Proofs.Qxb6600330a.fnCompareExactForDistinctValuesInOrder
open Go.ChangeShapes Go.WideShapes Go.ChangeAt Go.RowKit
open Go.ChangeMaps (open_string shut_string)
set_option linter.unusedVariables false

theorem own : ownKnob Try.prog.godebug = none := by kernel_rfl
theorem laidOut : laidOutB Try.prog = true := by kernel_rfl

/-- WHAT THE WALK IS TOLD OF A SLICE OF INTEGERS THAT CAME IN: it is nil; or it leads to a row of 'cap' cells, the numbers 'zs' (the first 'len' are its elements, the rest its spare room), each fitting its kind. -/
def IsRow (k : IntKind) (w : World) (a : Option Addr) (len cap : Nat) (zs : List Int) : Prop :=
  (a = none ∧ len = 0 ∧ cap = 0 ∧ zs = []) ∨
  ∃ x, a = some x ∧ len ≤ cap ∧ cap ≤ maxLen ∧ zs.length = cap ∧ (∀ i, i < zs.length → w.cell? (x.add i) = some (.int k (zs.getD i 0))) ∧ ∀ n ∈ zs, (Lit.int k n).wf = true

/-- What a row says of its cells. -/
theorem IsRow.asl {w : World} {a : Option Addr} {len cap : Nat} {zs : List Int} (h : IsRow .i64 w a len cap zs) : ASl w a len cap (fun i => zs.getD i 0) := by
  rcases h with ⟨h1, h2, h3, _⟩ | ⟨x, hx, hl, _, hz, hc, _⟩
  · exact .inl ⟨h1, h2, h3⟩
  · have sp : 0 < len → x.spot = none := by
      intro h0
      have := hc 0 (by omega)
      unfold World.cell? at this
      by_cases e : x.spot = none
      · exact e
      · exfalso
        have e' : (x.add 0).spot.isSome = true := by
          show x.spot.isSome = true
          cases hx : x.spot with
          | none => exact absurd hx e
          | some _ => rfl
        rw [e'] at this
        simp at this
        split at this <;> simp at this
    refine .inr ⟨x, hx, fun i hi => ?_, sp⟩
    have := hc i (by omega)
    obtain ⟨b, o, s⟩ := x
    obtain rfl : s = none := sp (by omega)
    rw [Addr.add_lit] at this
    exact this

/-- Which places are shared. -/
def inF (P : List (Nat × Nat)) (i : Nat) : Bool := P.any (fun p => p.1 == i)
def inS (P : List (Nat × Nat)) (j : Nat) : Bool := P.any (fun p => p.2 == j)
theorem inF_iff {P : List (Nat × Nat)} {i : Nat} : inF P i = true ↔ ∃ j, (i, j) ∈ P := by
  unfold inF
  rw [List.any_eq_true]
  constructor
  · rintro ⟨⟨p, q⟩, hp, e⟩
    have e : p = i := by simpa using e
    subst e; exact ⟨q, hp⟩
  · rintro ⟨j, hj⟩
    exact ⟨(i, j), hj, by simp⟩
theorem inS_iff {P : List (Nat × Nat)} {j : Nat} : inS P j = true ↔ ∃ i, (i, j) ∈ P := by
  unfold inS
  rw [List.any_eq_true]
  constructor
  · rintro ⟨⟨p, q⟩, hp, e⟩
    have e : q = j := by simpa using e
    subst e; exact ⟨p, hp⟩
  · rintro ⟨i, hj⟩
    exact ⟨(i, j), hj, by simp⟩
theorem take_next {P : List (Nat × Nat)} {k : Nat} (h : k < P.length) : P.take (k + 1) = P.take k ++ [P.getD k (0, 0)] := by
  rw [List.take_add_one, List.getD_eq_getElem?_getD, List.getElem?_eq_getElem h]; rfl
theorem inF_next {P : List (Nat × Nat)} {k : Nat} (h : k < P.length) : updB (inF (P.take k)) (P.getD k (0, 0)).1 = inF (P.take (k + 1)) := by
  funext i
  rw [take_next h]
  unfold inF updB
  rw [List.any_append]
  by_cases e : i = (P.getD k (0, 0)).1
  · rw [if_pos e, e]; simp
  · rw [if_neg e]
    have : ((P.getD k (0, 0)).1 == i) = false := by simpa using fun h => e h.symm
    simp only [List.any_cons, List.any_nil, this, Bool.or_false]
theorem inS_next {P : List (Nat × Nat)} {k : Nat} (h : k < P.length) : updB (inS (P.take k)) (P.getD k (0, 0)).2 = inS (P.take (k + 1)) := by
  funext i
  rw [take_next h]
  unfold inS updB
  rw [List.any_append]
  by_cases e : i = (P.getD k (0, 0)).2
  · rw [if_pos e, e]; simp
  · rw [if_neg e]
    have : ((P.getD k (0, 0)).2 == i) = false := by simpa using fun h => e h.symm
    simp only [List.any_cons, List.any_nil, this, Bool.or_false]

set_option maxRecDepth 100000 in
set_option maxHeartbeats 4000000 in
/-- The main way. -/
theorem walk_main (a0 : Option Addr) (len0 cap0 : Nat) (Z0 : Nat → Int) (a1 : Option Addr) (len1 cap1 : Nat) (Z1 : Nat → Int) (mc : Nat) (w : World) (h0 : ASl w a0 len0 cap0 Z0) (h1 : ASl w a1 len1 cap1 Z1) (hl0 : len0 ≤ 4096) (hl1 : len1 ≤ 4096) (hm1 : 1 ≤ mc) (hm2 : mc ≤ 8192) :
    Calls Try.prog 3 #[.slice a0 len0 cap0, .slice a1 len1 cap1, .int .i64 (mc : Int)] w fun e w' => e = .returned (.bool true) ∧ Below w.heap.size w w' := by
  have C0 : Hid (ASl w a0 len0 cap0 Z0 ∧ ASl w a1 len1 cap1 Z1) := ⟨h0, h1⟩
  clear h0 h1
  have g0 : (len0 : Int) ≤ 4096 := by omega
  have g1 : (len1 : Int) ≤ 4096 := by omega
  have g2 : (1 : Int) ≤ (mc : Int) := by omega
  have g3 : (mc : Int) ≤ 8192 := by omega
  go_enter Try.func3, Try.ntmps3
  go_wp2_with fail
  refine (bytes11 _ _ _ _ _ _ _ _).mono ?_
  rintro e w' ⟨b, rfl, hww, hb⟩
  have hww' := hww.symm
  clear hww
  subst hww'
  obtain rfl : b = true := hb hl0 hl1
  clear hb
  go_wp2_with fail
  refine (anchorsInt_any a0 a1 len0 cap0 len1 cap1 Z0 Z1 _ hl0 hl1 C0.out.1.sl C0.out.2.sl).mono ?_
  rintro e wa ⟨hwa, rfl | ⟨P, last, o1, c1, o2, c2, rfl, hA, i1, i2⟩⟩
  · have WA : Hid (Below w.heap.size w wa) := hwa
    clear hwa C0
    go_wp2_with fail
    go_ret
    exact ⟨rfl, WA.out⟩
  have WA : Hid (Below w.heap.size w wa) := hwa
  have C1 : Hid (ASl wa a0 len0 cap0 Z0 ∧ ASl wa a1 len1 cap1 Z1) := ⟨C0.out.1.later hwa, C0.out.2.later hwa⟩
  have AN : Hid (Plain.Anch Z0 Z1 len1 len0 last P) := hA
  have I1 : Hid (IntSl wa o1 P.length (fun i => ((P.getD i (0, 0)).1 : Int)) ∧ IntSl wa o2 P.length (fun i => ((P.getD i (0, 0)).2 : Int))) := ⟨i1, i2⟩
  clear hwa C0 hA i1 i2
  obtain ⟨n, en⟩ : ∃ n, n = P.length := ⟨_, rfl⟩
  rw [← en]
  rw [← en] at I1
  have n1 : (n : Int) ≤ len0 := by
    have := Plain.anch_L AN.out
    have h2 := Plain.L_le (tab Z0 Z1) len0 len1
    rw [en]; omega
  have n2 : (n : Int) ≤ len1 := by
    have := Plain.anch_L AN.out
    have h2 := Plain.L_le (tab Z0 Z1) len0 len1
    rw [en]; omega
  have EN : Hid (n = P.length) := en
  clear en
  by_cases q0 : (mc : Int) < ((len0 : Int) + len1 - 2 * n + 1) / 2
  · go_wp2_with fail
    go_ret
    exact ⟨rfl, WA.out⟩
  have Q0 : Hid ((len0 : Int) + len1 - 2 * n ≤ 2 * mc) := by show (len0 : Int) + len1 - 2 * n ≤ 2 * mc; omega
  go_wp2_with fail
  refine (clone_opt a0 len0 cap0 Z0 _ hl0 C1.out.1).mono ?_
  rintro e w1 ⟨ao, rfl, ra, hw1⟩
  have C2 : Hid (ASl w1 a1 len1 cap1 Z1) := C1.out.2.later hw1
  have R1 : Hid (CSl w1 ao len0 Z0) := ra
  clear C1 ra
  go_wp2_with fail
  refine (clone_opt a1 len1 cap1 Z1 _ hl1 C2.out).mono ?_
  rintro e w2 ⟨bo, rfl, rb, hw2⟩
  have R2 : Hid (CSl w2 ao len0 Z0 ∧ CSl w2 bo len1 Z1) := ⟨R1.out.later hw2, rb⟩
  clear C2 R1 rb
  go_wp2_with fail
  refine (zzcompare_any ao bo len0 len1 mc Z0 Z1 _ hl0 hl1 hm1 (by omega) R2.out.1 R2.out.2).mono ?_
  rintro e w3 ⟨br, bad, R, D, rfl, rr, rd, j1, j2, j3, hcmp, hw3⟩
  clear j1 j2 j3
  have R3 : Hid (w3.rowIs br 4 len0 (fun i => .bool (R i)) ∧ w3.rowIs bad 4 len1 (fun j => .bool (D j))) := ⟨rr, rd⟩
  have I2 : Hid (IntSl w3 o1 n (fun i => ((P.getD i (0, 0)).1 : Int)) ∧ IntSl w3 o2 n (fun i => ((P.getD i (0, 0)).2 : Int))) := ⟨((I1.out.1.kept hw1).kept hw2).kept hw3, ((I1.out.2.kept hw1).kept hw2).kept hw3⟩
  have W3 : Hid (Below w.heap.size w w3) := ((WA.out.trans (hw1.mono WA.out.size)).trans (hw2.mono (Nat.le_trans WA.out.size hw1.size))).trans (hw3.mono (Nat.le_trans WA.out.size (Nat.le_trans hw1.size hw2.size)))
  have EX : Hid ((∀ i, i < len0 → R i = !inF P i) ∧ (∀ j, j < len1 → D j = !inS P j)) := by
    have hbx : Plain.bx Z0 Z1 0 0 = tab Z0 Z1 := by
      unfold Plain.bx
      have e1 : (fun i => Z0 (0 + i)) = Z0 := funext fun i => by rw [Nat.zero_add]
      have e2 : (fun i => Z1 (0 + i)) = Z1 := funext fun i => by rw [Nat.zero_add]
      rw [e1, e2]
    have hle := Q0.out
    have hL := Plain.anch_L AN.out
    have hopt := hcmp.opt
    rw [hbx] at hopt
    have hk := hopt (by
      have hd := Plain.dist_eq (tab Z0 Z1) len0 len1
      show Plain.dist (tab Z0 Z1) (len0 - 0) (len1 - 0) ≤ 2 * mc
      rw [Nat.sub_zero, Nat.sub_zero]
      rw [EN.out] at hle
      omega)
    have hx := Plain.anch_exact AN.out hcmp.same (by
      have h2 : (Plain.kept Z0 R 0 len0).length = Plain.L (tab Z0 Z1) len0 len1 := hk
      rw [h2]; exact hL)
    refine ⟨fun i hi => ?_, fun j hj => ?_⟩
    · have := hx.1 i hi
      rw [← inF_iff] at this
      cases e1 : R i <;> cases e2 : inF P i <;> simp [e1, e2] at this ⊢
    · have := hx.2 j hj
      rw [← inS_iff] at this
      cases e1 : D j <;> cases e2 : inS P j <;> simp [e1, e2] at this ⊢
  have PB : Hid (∀ k, k < n → (P.getD k (0, 0)).1 < len0 ∧ (P.getD k (0, 0)).2 < len1) := by
    intro k hk
    have hk : k < P.length := by have := EN.out; omega
    have := AN.out.ok (P.getD k (0, 0)) (by rw [List.getD_eq_getElem?_getD, List.getElem?_eq_getElem hk]; exact List.getElem_mem hk)
    exact ⟨this.1, this.2.1⟩
  clear R2 rr rd hcmp hw1 hw2 hw3 WA AN Q0 I1
  have mb1 := make_bools len0 (by omega)
  have mb2 := make_bools len1 (by omega)
  go_wp2_with fail
  clear mb1 mb2
  have KR : Hid (((w3.alloc (zeroBools len0)).alloc (zeroBools len1)).rowIs w3.heap.size 4 len0 (fun i => .bool (inF (P.take 0) i)) ∧ ((w3.alloc (zeroBools len0)).alloc (zeroBools len1)).rowIs (w3.heap.size + 1) 4 len1 (fun i => .bool (inS (P.take 0) i)) ∧ Below w3.heap.size w3 ((w3.alloc (zeroBools len0)).alloc (zeroBools len1))) := by
    refine ⟨?_, ?_, ((Below.refl _ _).alloc (Nat.le_refl _) _).alloc (by simp) _⟩
    · exact World.rowIs.alloc (row_zeroBools (by show (w3.heap.push _)[w3.heap.size]? = _; simp)) _
    · exact row_zeroBools (by show ((w3.heap.push _).push _)[w3.heap.size + 1]? = _; simp only [Array.getElem?_push, Array.size_push]; simp)
  generalize ((w3.alloc (zeroBools len0)).alloc (zeroBools len1)) = wk at KR ⊢
  obtain ⟨ka, eka⟩ : ∃ ka, ka = w3.heap.size := ⟨_, rfl⟩
  rw [← eka]
  rw [← eka] at KR
  have EKA : Hid (ka = w3.heap.size) := eka
  clear eka
  go_loopw [15] (fun v wr => ∃ k : Nat, k ≤ n ∧ v = .int .i64 (k : Int) ∧ Hid (wr.rowIs ka 4 len0 (fun i => .bool (inF (P.take k) i)) ∧ wr.rowIs (ka + 1) 4 len1 (fun i => .bool (inS (P.take k) i)) ∧ Below ka w3 wr)) (fun v wr => n - (intOf v).toNat)
  case atStart => exact ⟨0, by omega, rfl, KR.out⟩
  case round =>
    clear KR
    obtain ⟨k, hk, rfl, hr⟩ := hrel
    have hk3 : (k : Int) ≤ 4096 := by omega
    by_cases q : (k : Int) < n
    · have hb : Below w3.heap.size w3 wr := by have := hr.out.2.2; rw [EKA.out] at this; exact this
      obtain ⟨b1, p1, rfl, r1⟩ := I2.out.1 (by omega)
      obtain ⟨b2, p2, rfl, r2⟩ := I2.out.2 (by omega)
      have lt2 : b2 < ka := by have := World.block_lt_of_cell? _ _ (r2 0 (by omega)); rw [EKA.out]; exact this
      have k1 : wr.cell? ⟨b1, p1 + k, none⟩ = some (.int .i64 ((P.getD k (0, 0)).1 : Int)) := cell_later hb (r1 k (by omega))
      have pb := PB.out k (by omega)
      have z1 := inF_next (P := P) (k := k) (by have := EN.out; omega)
      have z2 := inS_next (P := P) (k := k) (by have := EN.out; omega)
      have k4 : wr.cell? ⟨b2, p2 + k, none⟩ = some (.int .i64 ((P.getD k (0, 0)).2 : Int)) := cell_later hb (r2 k (by omega))
      clear r1 r2 hb
      generalize (P.getD k (0, 0)).1 = x at k1 pb z1
      generalize (P.getD k (0, 0)).2 = y at k4 pb z2
      obtain ⟨x1, y1⟩ := pb
      have k2 := hr.out.1.cell x1
      have k3 := hr.out.1.frozen x
      have k4' : (wr.setCell ⟨ka, x, none⟩ (.bool true)).cell? ⟨b2, p2 + k, none⟩ = some (.int .i64 (y : Int)) := (World.cell?_setCell_other _ _ _ _ (by first | (simp; omega) | (simp; done) | omega)).trans k4
      have row2 : (wr.setCell ⟨ka, x, none⟩ (.bool true)).rowIs (ka + 1) 4 len1 (fun i => .bool (inS (P.take k) i)) := hr.out.2.1.setOther (by show ka + 1 ≠ ka; omega) _
      have k5 := row2.cell y1
      have k6 := row2.frozen y
      have RR : Hid (((wr.setCell ⟨ka, x, none⟩ (.bool true)).setCell ⟨ka + 1, y, none⟩ (.bool true)).rowIs ka 4 len0 (fun i => .bool (inF (P.take (k + 1)) i)) ∧ ((wr.setCell ⟨ka, x, none⟩ (.bool true)).setCell ⟨ka + 1, y, none⟩ (.bool true)).rowIs (ka + 1) 4 len1 (fun i => .bool (inS (P.take (k + 1)) i)) ∧ Below ka w3 ((wr.setCell ⟨ka, x, none⟩ (.bool true)).setCell ⟨ka + 1, y, none⟩ (.bool true))) := by
        rw [← z1, ← z2]
        exact ⟨(row_updB hr.out.1 x).setOther (by show ka ≠ ka + 1; omega) _, row_updB row2 y, (hr.out.2.2.setCell (Nat.le_refl _) _).setCell (Nat.le_succ _) _⟩
      clear z1 z2 row2 hr lt2 k4
      have x2 : (x : Int) < len0 := by omega
      have y2 : (y : Int) < len1 := by omega
      go_wp2
      go_roundw
      case rel => exact ⟨k + 1, by omega, by go_num, RR.out⟩
      case measure => simp [intOf]; omega
    · have HE : Hid (wr.rowIs br 4 len0 (fun i => .bool (R i)) ∧ wr.rowIs bad 4 len1 (fun j => .bool (D j)) ∧ wr.rowIs ka 4 len0 (fun i => .bool (inF P i)) ∧ wr.rowIs (ka + 1) 4 len1 (fun j => .bool (inS P j)) ∧ Below w.heap.size w wr) := by
        have ek : k = n := by omega
        have h1 := hr.out.1
        have h2 := hr.out.2.1
        rw [ek, EN.out, List.take_length] at h1 h2
        have hb := hr.out.2.2
        rw [EKA.out] at hb
        exact ⟨(kept_below hb).row R3.out.1 id, (kept_below hb).row R3.out.2 id, h1, h2, W3.out.trans (hb.mono W3.out.size)⟩
      clear hr
      obtain ⟨wo, ewo⟩ : ∃ wo : World, wo = wr := ⟨_, rfl⟩
      have HO : Hid (wo = wr) := ewo
      clear ewo
      go_wp2_with fail
      go_loopw [16] (fun v wr => ∃ i : Nat, i ≤ len0 ∧ v = .int .i64 (i : Int) ∧ Hid ((wr.rowIs br 4 len0 (fun i => .bool (R i)) ∧ wr.rowIs bad 4 len1 (fun j => .bool (D j)) ∧ wr.rowIs ka 4 len0 (fun i => .bool (inF P i)) ∧ wr.rowIs (ka + 1) 4 len1 (fun j => .bool (inS P j)) ∧ Below w.heap.size w wr))) (fun v wr => len0 - (intOf v).toNat)
      case atStart => exact ⟨0, by omega, rfl, by have := HO.out; rw [← this]; rw [this]; exact HE.out⟩
      case round =>
        obtain ⟨i, hi, rfl, hr⟩ := hrel
        have hi3 : (i : Int) ≤ 4096 := by omega
        by_cases q : (i : Int) < len0
        · have hc := EX.out.1 i (by omega)
          have k1 := hr.out.1.cell (i := i) (by omega)
          have k2 := hr.out.2.2.1.cell (i := i) (by omega)
          rw [hc] at k1
          cases e : inF P i with
          | true =>
            rw [e] at k1 k2
            simp only [Bool.not_true] at k1
            clear hc e
            go_wp2_with fail
            go_quiet (fail)
            go_wp2
            go_roundw
            case rel => exact ⟨i + 1, by omega, by go_num, hr.out.1, hr.out.2.1, hr.out.2.2.1, hr.out.2.2.2.1, below_drewN hr.out.2.2.2.2 _⟩
            case measure => simp [intOf]; omega
          | false =>
            rw [e] at k1 k2
            simp only [Bool.not_false] at k1
            clear hc e
            go_wp2_with fail
            go_quiet (fail)
            go_wp2
            go_roundw
            case rel => exact ⟨i + 1, by omega, by go_num, hr.out.1, hr.out.2.1, hr.out.2.2.1, hr.out.2.2.2.1, below_drewN hr.out.2.2.2.2 _⟩
            case measure => simp [intOf]; omega
        · have HF : Hid (wr.rowIs br 4 len0 (fun i => .bool (R i)) ∧ wr.rowIs bad 4 len1 (fun j => .bool (D j)) ∧ wr.rowIs ka 4 len0 (fun i => .bool (inF P i)) ∧ wr.rowIs (ka + 1) 4 len1 (fun j => .bool (inS P j)) ∧ Below w.heap.size w wr) := hr.out
          clear hr
          obtain ⟨wo, ewo⟩ : ∃ wo : World, wo = wr := ⟨_, rfl⟩
          have HO2 : Hid (wo = wr) := ewo
          clear ewo
          go_wp2_with fail
          go_loopw [17] (fun v wr => ∃ i : Nat, i ≤ len1 ∧ v = .int .i64 (i : Int) ∧ Hid ((wr.rowIs br 4 len0 (fun i => .bool (R i)) ∧ wr.rowIs bad 4 len1 (fun j => .bool (D j)) ∧ wr.rowIs ka 4 len0 (fun i => .bool (inF P i)) ∧ wr.rowIs (ka + 1) 4 len1 (fun j => .bool (inS P j)) ∧ Below w.heap.size w wr))) (fun v wr => len1 - (intOf v).toNat)
          case atStart => exact ⟨0, by omega, rfl, by have := HO2.out; rw [← this]; rw [this]; exact HF.out⟩
          case round =>
            obtain ⟨i, hi, rfl, hr⟩ := hrel
            have hi3 : (i : Int) ≤ 4096 := by omega
            by_cases q : (i : Int) < len1
            · have hc := EX.out.2 i (by omega)
              have k1 := hr.out.2.1.cell (i := i) (by omega)
              have k2 := hr.out.2.2.2.1.cell (i := i) (by omega)
              rw [hc] at k1
              cases e : inS P i with
              | true =>
                rw [e] at k1 k2
                simp only [Bool.not_true] at k1
                clear hc e
                go_wp2_with fail
                go_quiet (fail)
                go_wp2
                go_roundw
                case rel => exact ⟨i + 1, by omega, by go_num, hr.out.1, hr.out.2.1, hr.out.2.2.1, hr.out.2.2.2.1, below_drewN hr.out.2.2.2.2 _⟩
                case measure => simp [intOf]; omega
              | false =>
                rw [e] at k1 k2
                simp only [Bool.not_false] at k1
                clear hc e
                go_wp2_with fail
                go_quiet (fail)
                go_wp2
                go_roundw
                case rel => exact ⟨i + 1, by omega, by go_num, hr.out.1, hr.out.2.1, hr.out.2.2.1, hr.out.2.2.2.1, below_drewN hr.out.2.2.2.2 _⟩
                case measure => simp [intOf]; omega
            · go_wp2_with fail
              go_ret
              exact ⟨rfl, hr.out.2.2.2.2⟩

set_option maxHeartbeats 1000000 in
/-- Where the law's own tests say: nothing is asked. -/
theorem walk_idle (a0 : Option Addr) (len0 cap0 : Nat) (a1 : Option Addr) (len1 cap1 : Nat) (a2 : Int) (w : World) (h : 4096 < len0 ∨ 4096 < len1 ∨ a2 < 1 ∨ 8192 < a2) :
    Calls Try.prog 3 #[.slice a0 len0 cap0, .slice a1 len1 cap1, .int .i64 a2] w fun e w' => e = .returned (.bool true) ∧ Below w.heap.size w w' := by
  have H : Hid (4096 < len0 ∨ 4096 < len1 ∨ a2 < 1 ∨ 8192 < a2) := h
  clear h
  go_enter Try.func3, Try.ntmps3
  go_wp2_with fail
  refine (bytes11 _ _ _ _ _ _ _ _).mono ?_
  rintro e w' ⟨b, rfl, rfl, hb⟩
  clear hb
  cases b with
  | false =>
    go_wp2_with fail
    go_ret
    exact ⟨rfl, Below.refl _ _⟩
  | true =>
    by_cases q1 : (4096 : Int) < len0
    · go_wp2_with fail
      go_ret
      exact ⟨rfl, Below.refl _ _⟩
    · by_cases q2 : (4096 : Int) < len1
      · go_wp2_with fail
        go_ret
        exact ⟨rfl, Below.refl _ _⟩
      · by_cases q3 : a2 < 1
        · go_wp2_with fail
          go_ret
          exact ⟨rfl, Below.refl _ _⟩
        · have q4 : 8192 < a2 := by have := H.out; omega
          go_wp2_with fail
          go_ret
          exact ⟨rfl, Below.refl _ _⟩

theorem walk (a0 : Option Addr) (len0 cap0 : Nat) (z0 : List Int) (a1 : Option Addr) (len1 cap1 : Nat) (z1 : List Int) (a2 : Int) (w : World) (w0 : IsRow .i64 w a0 len0 cap0 z0) (w1 : IsRow .i64 w a1 len1 cap1 z1) (w2 : (Lit.int .i64 a2).wf = true) :
    Calls Try.prog 3 #[.slice a0 len0 cap0, .slice a1 len1 cap1, .int .i64 a2] w fun e w' => e = .returned (.bool true) ∧ Below w.heap.size w w' := by
  by_cases h : 4096 < len0 ∨ 4096 < len1 ∨ a2 < 1 ∨ 8192 < a2
  · exact walk_idle a0 len0 cap0 a1 len1 cap1 a2 w h
  · have m0 := walk_main a0 len0 cap0 (fun i => z0.getD i 0) a1 len1 cap1 (fun i => z1.getD i 0) a2.toNat w w0.asl w1.asl (by omega) (by omega) (by omega) (by omega)
    rw [show ((a2.toNat : Nat) : Int) = a2 from by omega] at m0
    exact m0

/-! ### THE ROW's STEP: WRITTEN OUT: LEAVE IT -/
set_option maxRecDepth 100000 in
theorem lifted (os : Os) (started : os.Started) (H : Type) (enc : TypeId × Value → H) :
    ReturnsInHanded {} Try.checked os 3 .any (Rows.fnCompareExactForDistinctValuesInOrderSpec.pre6 enc Try.prog Try.f3 Rows.fnCompareExactForDistinctValuesInOrderRow.domain false) (Rows.fnCompareExactForDistinctValuesInOrderSpec.post enc Try.prog Try.f3 false true false false) := by
  refine returnsInHanded_of_change (C := Try.checked) own started (by kernel_rfl) Try.func3
    (ChangeSpec.witness6 (enc := enc) (C := Try.checked) false ⟨#[], #[.slice none 0 0, .slice none 0 0, .int .i64 0], []⟩ 8 (by kernel_rfl) (by kernel_rfl) (by kernel_rfl) (by kernel_rfl)) ?_
  intro W base args ds gs before hval0 hW hcnd _
  have hval : ∀ (j : Nat) t v, Try.f3.params[j]? = some t → args[j]? = some v → Value.okWide Try.prog W .any base t v := hval0
  have hW' := hW
  obtain ⟨p, q, hA0, hV, rfl, hfz, hnd⟩ := hW
  have hA : DataW.TrodAll enc Try.prog W 0 (fun _ => true) true Try.f3.params.toList args.toList ds p := hA0
  rw [Try.params3] at hA hval
  obtain ⟨v0, vs0, d0, ds0, p0, q0, hargs, rfl, rfl, h0, r0⟩ := trodAll_cons hA
  obtain ⟨v1, vs1, d1, ds1, p1, q1, rfl, rfl, rfl, h1, r1⟩ := trodAll_cons r0
  obtain ⟨v2, vs2, d2, ds2, p2, q2, rfl, rfl, rfl, h2, r2⟩ := trodAll_cons r1
  obtain ⟨rfl, rfl, rfl⟩ := trodAll_nil r2
  obtain rfl : args = #[v0, v1, v2] := by cases args; simp_all
  obtain ⟨rfl, rfl⟩ := trodVars_none hV
  obtain ⟨a0, len0, cap0, rfl⟩ := okWide_slice Try.underlying22 (hval 0 22 v0 rfl rfl)
  have k0 := h0
  have lt0 : ∀ x ∈ p0, x.block < W.heap.size := by obtain ⟨m, hm⟩ := k0; exact DataW.trod_lt m _ _ _ hm
  obtain ⟨z0, w0⟩ : ∃ zs, IsRow .i64 W a0 len0 cap0 zs := by
    obtain ⟨fuel, hf⟩ := h0
    rcases open_ints Try.underlying22 Try.underlying3 (by kernel_rfl) hf with ⟨hcs, _⟩ | ⟨x, l, c, zs, hcs, _, hl, hm, hz, _, hcell, hwz⟩
    · simp [Value.cells] at hcs
      obtain ⟨rfl, rfl, rfl⟩ := hcs
      exact ⟨[], .inl ⟨rfl, rfl, rfl, rfl⟩⟩
    · simp [Value.cells] at hcs
      obtain ⟨rfl, rfl, rfl⟩ := hcs
      exact ⟨zs, .inr ⟨_, rfl, hl, hm, by simpa using hz, hcell, hwz⟩⟩
  obtain ⟨a1, len1, cap1, rfl⟩ := okWide_slice Try.underlying22 (hval 1 22 v1 rfl rfl)
  have k1 := h1
  have lt1 : ∀ x ∈ p1, x.block < W.heap.size := by obtain ⟨m, hm⟩ := k1; exact DataW.trod_lt m _ _ _ hm
  obtain ⟨z1, w1⟩ : ∃ zs, IsRow .i64 W a1 len1 cap1 zs := by
    obtain ⟨fuel, hf⟩ := h1
    rcases open_ints Try.underlying22 Try.underlying3 (by kernel_rfl) hf with ⟨hcs, _⟩ | ⟨x, l, c, zs, hcs, _, hl, hm, hz, _, hcell, hwz⟩
    · simp [Value.cells] at hcs
      obtain ⟨rfl, rfl, rfl⟩ := hcs
      exact ⟨[], .inl ⟨rfl, rfl, rfl, rfl⟩⟩
    · simp [Value.cells] at hcs
      obtain ⟨rfl, rfl, rfl⟩ := hcs
      exact ⟨zs, .inr ⟨_, rfl, hl, hm, by simpa using hz, hcell, hwz⟩⟩
  obtain ⟨a2, rfl, rfl, rfl, w2⟩ := open_int Try.underlying3 (hval 2 3 v2 rfl rfl) h2
  clear hA0 hval0
  refine (walk a0 len0 cap0 z0 a1 len1 cap1 z1 a2 W w0 w1 w2).mono fun e W' ⟨he, bel⟩ => ?_
  subst he
  exact ⟨_, rfl, _, _, _, [], _, [], hW', trodAll_mk1 (shut_bool Try.underlying4 _), (trodAll_cons_mk (Below.trod laidOut (by kernel_rfl) (of_decide_eq_true (by kernel_rfl)) k0 bel lt0) (trodAll_cons_mk (Below.trod laidOut (by kernel_rfl) (of_decide_eq_true (by kernel_rfl)) k1 bel lt1) (trodAll_cons_mk (shut_int Try.underlying3 w2) trodAll_mk0))), rfl, bel.frame _, fun h => by cases h⟩

theorem over : Rows.fnCompareExactForDistinctValuesInOrderRow.holds Try.pinned (OpenSpec.ofChange Rows.fnCompareExactForDistinctValuesInOrderSpec) :=
  OpenClaim.holds_of_wide 3 Try.f3 rfl rfl rfl rfl rfl rfl rfl ⟨rfl, rfl, rfl, rfl, rfl⟩ rfl rfl rfl rfl rfl (by kernel_rfl) Try.func3 (by kernel_rfl)
    (of_decide_eq_true (by kernel_rfl)) (by unfold Func.isWrapper; first | (rw [if_pos (by decide +kernel)]; kernel_rfl) | (rw [if_neg (by decide +kernel)]; exact ⟨rfl, rfl⟩))
    (fun os started H enc _ => lifted os started H enc)

/-- ████ THE STATEMENT ████ -/
theorem proved : Rows.FnCompareExactForDistinctValuesInOrderSaid := over
end Go.Proofs.Qxb6600330a.fnCompareExactForDistinctValuesInOrder
