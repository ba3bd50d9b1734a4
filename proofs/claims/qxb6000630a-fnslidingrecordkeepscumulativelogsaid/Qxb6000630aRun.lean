import Derived.Test.Qxb6000630aLog
namespace Go.Proofs.Qxb6000630a
open Go.RowKit
set_option linter.unusedVariables false
set_option linter.unusedSimpArgs false

/-- A slice of numbers, whatever its address where it is empty. -/
def Sl (k : IntKind) (w : World) (ao : Option Addr) (l : Nat) (Z : Nat → Int) : Prop := 0 < l → ∃ b o, ao = some ⟨b, o, none⟩ ∧ ∀ i, i < l → w.cell? ⟨b, o + i, none⟩ = some (.int k (Z i))
theorem Sl.kept {k : IntKind} {w w' : World} {ao : Option Addr} {l : Nat} {Z : Nat → Int} (h : Sl k w ao l Z) (q : Below w.heap.size w w') : Sl k w' ao l Z := fun h0 => by
  obtain ⟨b, o, e, r⟩ := h h0
  exact ⟨b, o, e, fun i hi => cell_later q (r i hi)⟩

def Stp (bl : Nat) (A H : Nat → Int) (i : Nat) (w w' : World) : Prop := Below bl w w' ∧ ∃ v L, Lg w' bl v L (Plain.S H (i + 1)) ∧ Plain.LogIs A H (i + 1) L

theorem rec_step {bl : Nat} {A H : Nat → Int} {i n : Nat} {L : List (Int × Int)} {w w' : World} (hv : Plain.Valid A H n) (hi : i < n) (hn : H i ≠ 0) (hl : Plain.LogIs A H i L) (hr : Rec bl L (A i) (H i) (Plain.S H i) w w') : Stp bl A H i w w' := by
  obtain ⟨hb, v', L', hg, ⟨L0, p, e1, e2, e3⟩ | ⟨e1, e2⟩⟩ := hr
  · refine ⟨hb, v', L', hg, ?_⟩
    rw [e3]
    subst e1
    exact Plain.log_same hv hi hn hl e2
  · refine ⟨hb, v', L', hg, ?_⟩
    rw [e2]
    exact Plain.log_new hv hi hn hl e1

theorem record_any (bl : Nat) (A H : Nat → Int) (i n : Nat) (L : List (Int × Int)) (v : Value) (w : World) (hg : Lg w bl v L (Plain.S H i)) (hl : Plain.LogIs A H i L) (hv : Plain.Valid A H n) (hi : i < n) (hn : n ≤ 4096) (hs : Plain.S H n < 18446744073709551616) :
    Calls Try.prog 27 #[.pointer (some ⟨bl, 0, none⟩), .int .i64 (A i), .int .u64 (H i)] w fun e w' => e = .returned (.tuple #[]) ∧ Stp bl A H i w w' := by
  have p0 := hv.pos i hi
  have s0 := Plain.S_pos hv.pos i (by omega)
  have s1 : Plain.S H (i + 1) ≤ Plain.S H n := Plain.S_mono hv.pos (by omega)
  have s1 : Plain.S H i + H i ≤ Plain.S H n := s1
  have hlen := hl.len
  by_cases h0 : H i = 0
  · rw [h0]
    refine (record_zero bl (A i) w).mono ?_
    rintro e w' ⟨rfl, rfl⟩
    refine ⟨rfl, Below.refl _ _, v, L, ?_, Plain.log_zero hl h0⟩
    have e : Plain.S H (i + 1) = Plain.S H i := by show Plain.S H i + H i = _; rw [h0]; simp
    rw [e]; exact hg
  · rcases List.eq_nil_or_concat L with e | ⟨L0, q, e⟩
    · refine (record_new bl L (A i) (H i) (Plain.S H i) v w hg (fun L0 p hp => by rw [e] at hp; simp at hp) (by omega) s0 (by omega) (by omega)).mono ?_
      rintro e w' ⟨rfl, hr⟩
      exact ⟨rfl, rec_step hv hi h0 hl hr⟩
    · have e' : L = L0 ++ [q] := by rw [e]; simp
      by_cases hq : q.1 = A i
      · subst e'
        rw [List.length_append] at hlen
        refine (record_same bl L0 q (A i) (H i) (Plain.S H i) v w hg hq (by omega) s0 (by omega) (by omega)).mono ?_
        rintro e w' ⟨rfl, hr⟩
        exact ⟨rfl, rec_step hv hi h0 hl hr⟩
      · refine (record_new bl L (A i) (H i) (Plain.S H i) v w hg (fun L1 p hp => by
          rw [e'] at hp
          have := List.append_inj' hp rfl
          have e3 : q = p := by simpa using this.2
          rw [← e3]; exact hq) (by omega) s0 (by omega) (by omega)).mono ?_
        rintro e w' ⟨rfl, hr⟩
        exact ⟨rfl, rec_step hv hi h0 hl hr⟩

set_option maxHeartbeats 1000000 in
theorem zzrecord_any (bl : Nat) (A H : Nat → Int) (i n : Nat) (L : List (Int × Int)) (v : Value) (w : World) (hg : Lg w bl v L (Plain.S H i)) (hl : Plain.LogIs A H i L) (hv : Plain.Valid A H n) (hi : i < n) (hn : n ≤ 4096) (hs : Plain.S H n < 18446744073709551616) :
    Calls Try.prog 22 #[.pointer (some ⟨bl, 0, none⟩), .int .i64 (A i), .int .u64 (H i)] w fun e w' => e = .returned (.tuple #[]) ∧ Stp bl A H i w w' := by
  have C := record_any bl A H i n L v w hg hl hv hi hn hs
  have HC : Hid (Calls Try.prog 27 #[.pointer (some ⟨bl, 0, none⟩), .int .i64 (A i), .int .u64 (H i)] w fun e w' => e = .returned (.tuple #[]) ∧ Stp bl A H i w w') := C
  clear C hg hl hv hs
  go_enter Try.func22, Try.ntmps22
  go_wp2_with fail
  refine HC.out.mono ?_
  rintro e w' ⟨rfl, hr⟩
  have HR : Hid (Stp bl A H i w w') := hr
  clear hr
  go_wp2
  go_end0
  exact ⟨rfl, HR.out⟩

theorem new_any (w : World) : Calls Try.prog 26 #[] w fun e w' => e = .returned (.pointer (some ⟨w.heap.size, 0, none⟩)) ∧ Lg w' w.heap.size (.slice none 0 0) [] 0 ∧ Below w.heap.size w w' := by
  go_enter Try.func26, Try.ntmps26
  go_wp2
  go_ret
  refine ⟨rfl, ⟨?_, World.ownsRow_nil _ _ _ _⟩, (Below.refl _ _).alloc (Nat.le_refl _) _⟩
  show (w.heap.push _)[w.heap.size]? = _
  simp

/-- What the run answers. -/
def RetR (A H : Nat → Int) (n : Nat) (w : World) (e : Ending) (w' : World) : Prop :=
  Below w.heap.size w w' ∧ (e = .returned (.tuple #[.pointer none, .bool false]) ∨ ∃ bl v L, e = .returned (.tuple #[.pointer (some ⟨bl, 0, none⟩), .bool true]) ∧ w.heap.size ≤ bl ∧ Lg w' bl v L (Plain.S H n) ∧ Plain.LogIs A H n L ∧ Plain.Valid A H n ∧ Plain.S H n < 18446744073709551616)

/-- Where the tests of the script stand. -/
def Tst (A H : Nat → Int) (i : Nat) (prev : Int) (hv : Bool) : Prop := Plain.Valid A H i ∧ Plain.S H i < 18446744073709551616 ∧ (hv = false → ∀ j, j < i → H j = 0) ∧ (hv = true → ∀ j, j < i → H j ≠ 0 → A j ≤ prev)
theorem tst_zero {A H : Nat → Int} {i : Nat} {prev : Int} {hv : Bool} (h : Tst A H i prev hv) (h0 : H i = 0) : Tst A H (i + 1) prev hv := by
  have each : ∀ j, j < i + 1 → j < i ∨ j = i := fun j hj => by omega
  refine ⟨⟨fun j hj => ?_, fun x y hxy hy hx hyn => ?_⟩, ?_, fun e j hj => ?_, fun e j hj hn => ?_⟩
  · rcases each j hj with q | rfl
    · exact h.1.pos j q
    · omega
  · rcases each y hy with q | rfl
    · exact h.1.up x y hxy q hx hyn
    · exact absurd h0 hyn
  · show Plain.S H i + H i < _
    rw [h0]; have := h.2.1; omega
  · rcases each j hj with q | rfl
    · exact h.2.2.1 e j q
    · exact h0
  · rcases each j hj with q | rfl
    · exact h.2.2.2 e j q hn
    · exact absurd h0 hn
theorem tst_add {A H : Nat → Int} {i : Nat} {prev : Int} {hv : Bool} (h : Tst A H i prev hv) (hp : 0 ≤ H i) (hs : Plain.S H i + H i < 18446744073709551616) (hle : hv = true → prev ≤ A i) : Tst A H (i + 1) (A i) true := by
  have each : ∀ j, j < i + 1 → j < i ∨ j = i := fun j hj => by omega
  have bef : ∀ j, j < i → H j ≠ 0 → A j ≤ A i := fun j hj hn => by
    cases hv with
    | false => exact absurd (h.2.2.1 rfl j hj) hn
    | true => exact Int.le_trans (h.2.2.2 rfl j hj hn) (hle rfl)
  refine ⟨⟨fun j hj => ?_, fun x y hxy hy hx hyn => ?_⟩, hs, fun e => (by cases e), fun e j hj hn => ?_⟩
  · rcases each j hj with q | rfl
    · exact h.1.pos j q
    · exact hp
  · rcases each y hy with q | rfl
    · exact h.1.up x y hxy q hx hyn
    · exact bef x hxy hx
  · rcases each j hj with q | rfl
    · exact bef j q hn
    · exact Int.le_refl _

set_option maxRecDepth 100000 in
set_option maxHeartbeats 4000000 in
theorem run_lt (ao ho : Option Addr) (la ca lh ch : Nat) (A H : Nat → Int) (w : World) (hla : la ≤ 4096) (hlh : lh ≤ 4096) (hlt : lh < la) (ha : Sl .i64 w ao la A) (hh : Sl .u64 w ho lh H) (hu : ∀ j, j < lh → 0 ≤ H j ∧ H j < 18446744073709551616) :
    Calls Try.prog 15 #[.slice ao la ca, .slice ho lh ch] w (RetR A H lh w) := by
  have HA : Hid (Sl .i64 w ao la A) := ha
  have HH : Hid (Sl .u64 w ho lh H) := hh
  have HU : Hid (∀ j, j < lh → 0 ≤ H j ∧ H j < 18446744073709551616) := hu
  clear ha hh hu
  have g0 : (la : Int) ≤ 4096 := by omega
  have g1 : (lh : Int) ≤ 4096 := by omega
  have g2 : (lh : Int) < la := by omega
  go_enter Try.func15, Try.ntmps15
  go_wp2_with fail
  go_loopw [7, 8, 9, 10] (fun v7 v8 v9 v10 wr => ∃ (i : Nat) (prev : Int) (hv : Bool), i ≤ lh ∧ v7 = .int .i64 prev ∧ v8 = .bool hv ∧ v9 = .int .u64 (Plain.S H i) ∧ v10 = .int .i64 (i : Int) ∧ Hid (Tst A H i prev hv ∧ wr = w)) (fun _ _ _ v wr => lh - (intOf v).toNat)
  case atStart => exact ⟨0, 0, false, by omega, rfl, rfl, rfl, rfl, ⟨⟨fun j hj => by omega, fun x y _ hy => by omega⟩, by show (0 : Int) < _; omega, fun _ j hj => by omega, fun e => by cases e⟩, rfl⟩
  case round =>
    obtain ⟨i, prev, hv, hi, rfl, rfl, rfl, rfl, hr⟩ := hrel
    have hi3 : (i : Int) ≤ 4096 := by omega
    obtain ⟨ht, hww⟩ := hr.out
    have hww' := hww.symm
    clear hww hr
    subst hww'
    have HT : Hid (Tst A H i prev hv) := ht
    have sp : 0 ≤ Plain.S H i := Plain.S_pos ht.1.pos i (Nat.le_refl _)
    have sl : Plain.S H i < 18446744073709551616 := ht.2.1
    clear ht
    by_cases q : (i : Int) < (lh : Int)
    · obtain ⟨ba, oa, rfl, ra⟩ := HA.out (by omega)
      obtain ⟨bh, oh, rfl, rh⟩ := HH.out (by omega)
      have k1 := ra i (by omega)
      have k2 := rh i (by omega)
      have u1 := (HU.out i (by omega)).1
      have u2 := (HU.out i (by omega)).2
      clear ra rh HA HH
      by_cases h0 : H i = 0
      · have HT2 : Hid (Tst A H (i + 1) prev hv) := tst_zero HT.out h0
        have es : Plain.S H (i + 1) = Plain.S H i := by show Plain.S H i + H i = _; rw [h0]; simp
        rw [h0] at k2
        have ES : Hid (Plain.S H (i + 1) = Plain.S H i) := es
        clear es h0 HT
        go_wp2
        go_roundw
        case rel => exact ⟨i + 1, prev, hv, by omega, rfl, rfl, by rw [ES.out], by go_num, HT2.out, (by first | rfl | trivial)⟩
        case measure => simp [intOf]; omega
      · have d0 : (H i == 0) = false := by simpa using h0
        have u3 : 0 < H i := by omega
        clear h0
        by_cases hwr : Plain.S H i + H i < 18446744073709551616
        · have nlt : ¬ Plain.S H i + H i < Plain.S H i := by omega
          cases hv with
          | false =>
            have HT2 : Hid (Tst A H (i + 1) (A i) true) := tst_add HT.out (by omega) hwr (fun e => by cases e)
            clear HT
            go_wp2
            go_roundw
            case rel => exact ⟨i + 1, A i, true, by omega, rfl, rfl, rfl, by go_num, HT2.out, (by first | rfl | trivial)⟩
            case measure => simp [intOf]; omega
          | true =>
            by_cases hpr : A i < prev
            · go_wp2
              go_ret2
              exact ⟨Below.refl _ _, .inl rfl⟩
            · have HT2 : Hid (Tst A H (i + 1) (A i) true) := tst_add HT.out (by omega) hwr (fun e => by omega)
              clear HT
              go_wp2
              go_roundw
              case rel => exact ⟨i + 1, A i, true, by omega, rfl, rfl, rfl, by go_num, HT2.out, (by first | rfl | trivial)⟩
              case measure => simp [intOf]; omega
        · have dw : IntKind.u64.wrap (Plain.S H i + H i) < Plain.S H i := by
            have e : IntKind.u64.wrap (Plain.S H i + H i) = (Plain.S H i + H i) % 18446744073709551616 := by simp [IntKind.wrap, IntKind.signed, IntKind.bits]
            rw [e]; omega
          cases hv with
          | false =>
            clear HT
            go_wp2
            go_ret2
            exact ⟨Below.refl _ _, .inl rfl⟩
          | true =>
            by_cases hpr : A i < prev
            · go_wp2
              go_ret2
              exact ⟨Below.refl _ _, .inl rfl⟩
            · go_wp2
              go_ret2
              exact ⟨Below.refl _ _, .inl rfl⟩
    · have ei : i = lh := by omega
      subst ei
      go_wp2_with fail
      refine (new_any _).mono ?_
      rintro e w1 ⟨rfl, hg, hb⟩
      have HG : Hid (Lg w1 w.heap.size (.slice none 0 0) [] 0 ∧ Below w.heap.size w w1) := ⟨hg, hb⟩
      clear hg hb
      go_wp2_with fail
      go_loopw [13] (fun v wr => ∃ j : Nat, j ≤ i ∧ v = .int .i64 (j : Int) ∧ Hid (∃ v L, Lg wr w.heap.size v L (Plain.S H j) ∧ Plain.LogIs A H j L ∧ Below w.heap.size w wr)) (fun v wr => i - (intOf v).toNat)
      case atStart => exact ⟨0, by omega, rfl, _, _, HG.out.1, Plain.log_start, HG.out.2⟩
      case round =>
        obtain ⟨j, hj, rfl, hr⟩ := hrel
        have hj3 : (j : Int) ≤ 4096 := by omega
        by_cases q2 : (j : Int) < (i : Int)
        · obtain ⟨v, L, r1, r2, r3⟩ := hr.out
          obtain ⟨ba, oa, rfl, ra⟩ := HA.out (by omega)
          obtain ⟨bh, oh, rfl, rh⟩ := HH.out (by omega)
          have k1 := cell_later r3 (ra j (by omega))
          have k2 := cell_later r3 (rh j (by omega))
          have C : Hid (Calls Try.prog 22 #[.pointer (some ⟨w.heap.size, 0, none⟩), .int .i64 (A j), .int .u64 (H j)] wr.drew fun e w' => e = .returned (.tuple #[]) ∧ Stp w.heap.size A H j wr.drew w') := zzrecord_any w.heap.size A H j i L v wr.drew r1.drew r2 HT.out.1 (by omega) (by omega) HT.out.2.1
          have B3 : Hid (Below w.heap.size w wr) := r3
          clear ra rh r1 r2 r3 hr HG
          go_wp2_with fail
          go_region_with (go_at_call 22; refine C.out.mono ?_; rintro e w' ⟨rfl, hst⟩)
          all_goals go_wp2
          all_goals go_roundw
          all_goals first
            | (obtain ⟨b4, v4, L4, g4, l4⟩ := hst; exact ⟨j + 1, by omega, by go_num, v4, L4, g4, l4, (B3.out.drew).trans b4⟩)
            | (simp [intOf]; omega)
        · have ej : j = i := by omega
          subst ej
          go_wp2
          go_ret2
          obtain ⟨v, L, r1, r2, r3⟩ := hr.out
          exact ⟨r3, .inr ⟨_, v, L, rfl, Nat.le_refl _, r1, r2, HT.out.1, HT.out.2.1⟩⟩

set_option maxRecDepth 100000 in
set_option maxHeartbeats 4000000 in
theorem run_ge (ao ho : Option Addr) (la ca lh ch : Nat) (A H : Nat → Int) (w : World) (hla : la ≤ 4096) (hlh : lh ≤ 4096) (hlt : ¬ lh < la) (ha : Sl .i64 w ao la A) (hh : Sl .u64 w ho lh H) (hu : ∀ j, j < lh → 0 ≤ H j ∧ H j < 18446744073709551616) :
    Calls Try.prog 15 #[.slice ao la ca, .slice ho lh ch] w (RetR A H la w) := by
  have HA : Hid (Sl .i64 w ao la A) := ha
  have HH : Hid (Sl .u64 w ho lh H) := hh
  have HU : Hid (∀ j, j < lh → 0 ≤ H j ∧ H j < 18446744073709551616) := hu
  clear ha hh hu
  have g0 : (la : Int) ≤ 4096 := by omega
  have g1 : (lh : Int) ≤ 4096 := by omega
  have g2 : ¬ (lh : Int) < la := by omega
  go_enter Try.func15, Try.ntmps15
  go_wp2_with fail
  go_loopw [7, 8, 9, 10] (fun v7 v8 v9 v10 wr => ∃ (i : Nat) (prev : Int) (hv : Bool), i ≤ la ∧ v7 = .int .i64 prev ∧ v8 = .bool hv ∧ v9 = .int .u64 (Plain.S H i) ∧ v10 = .int .i64 (i : Int) ∧ Hid (Tst A H i prev hv ∧ wr = w)) (fun _ _ _ v wr => la - (intOf v).toNat)
  case atStart => exact ⟨0, 0, false, by omega, rfl, rfl, rfl, rfl, ⟨⟨fun j hj => by omega, fun x y _ hy => by omega⟩, by show (0 : Int) < _; omega, fun _ j hj => by omega, fun e => by cases e⟩, rfl⟩
  case round =>
    obtain ⟨i, prev, hv, hi, rfl, rfl, rfl, rfl, hr⟩ := hrel
    have hi3 : (i : Int) ≤ 4096 := by omega
    obtain ⟨ht, hww⟩ := hr.out
    have hww' := hww.symm
    clear hww hr
    subst hww'
    have HT : Hid (Tst A H i prev hv) := ht
    have sp : 0 ≤ Plain.S H i := Plain.S_pos ht.1.pos i (Nat.le_refl _)
    have sl : Plain.S H i < 18446744073709551616 := ht.2.1
    clear ht
    by_cases q : (i : Int) < (la : Int)
    · obtain ⟨ba, oa, rfl, ra⟩ := HA.out (by omega)
      obtain ⟨bh, oh, rfl, rh⟩ := HH.out (by omega)
      have k1 := ra i (by omega)
      have k2 := rh i (by omega)
      have u1 := (HU.out i (by omega)).1
      have u2 := (HU.out i (by omega)).2
      clear ra rh HA HH
      by_cases h0 : H i = 0
      · have HT2 : Hid (Tst A H (i + 1) prev hv) := tst_zero HT.out h0
        have es : Plain.S H (i + 1) = Plain.S H i := by show Plain.S H i + H i = _; rw [h0]; simp
        rw [h0] at k2
        have ES : Hid (Plain.S H (i + 1) = Plain.S H i) := es
        clear es h0 HT
        go_wp2
        go_roundw
        case rel => exact ⟨i + 1, prev, hv, by omega, rfl, rfl, by rw [ES.out], by go_num, HT2.out, (by first | rfl | trivial)⟩
        case measure => simp [intOf]; omega
      · have d0 : (H i == 0) = false := by simpa using h0
        have u3 : 0 < H i := by omega
        clear h0
        by_cases hwr : Plain.S H i + H i < 18446744073709551616
        · have nlt : ¬ Plain.S H i + H i < Plain.S H i := by omega
          cases hv with
          | false =>
            have HT2 : Hid (Tst A H (i + 1) (A i) true) := tst_add HT.out (by omega) hwr (fun e => by cases e)
            clear HT
            go_wp2
            go_roundw
            case rel => exact ⟨i + 1, A i, true, by omega, rfl, rfl, rfl, by go_num, HT2.out, (by first | rfl | trivial)⟩
            case measure => simp [intOf]; omega
          | true =>
            by_cases hpr : A i < prev
            · go_wp2
              go_ret2
              exact ⟨Below.refl _ _, .inl rfl⟩
            · have HT2 : Hid (Tst A H (i + 1) (A i) true) := tst_add HT.out (by omega) hwr (fun e => by omega)
              clear HT
              go_wp2
              go_roundw
              case rel => exact ⟨i + 1, A i, true, by omega, rfl, rfl, rfl, by go_num, HT2.out, (by first | rfl | trivial)⟩
              case measure => simp [intOf]; omega
        · have dw : IntKind.u64.wrap (Plain.S H i + H i) < Plain.S H i := by
            have e : IntKind.u64.wrap (Plain.S H i + H i) = (Plain.S H i + H i) % 18446744073709551616 := by simp [IntKind.wrap, IntKind.signed, IntKind.bits]
            rw [e]; omega
          cases hv with
          | false =>
            clear HT
            go_wp2
            go_ret2
            exact ⟨Below.refl _ _, .inl rfl⟩
          | true =>
            by_cases hpr : A i < prev
            · go_wp2
              go_ret2
              exact ⟨Below.refl _ _, .inl rfl⟩
            · go_wp2
              go_ret2
              exact ⟨Below.refl _ _, .inl rfl⟩
    · have ei : i = la := by omega
      subst ei
      go_wp2_with fail
      refine (new_any _).mono ?_
      rintro e w1 ⟨rfl, hg, hb⟩
      have HG : Hid (Lg w1 w.heap.size (.slice none 0 0) [] 0 ∧ Below w.heap.size w w1) := ⟨hg, hb⟩
      clear hg hb
      go_wp2_with fail
      go_loopw [13] (fun v wr => ∃ j : Nat, j ≤ i ∧ v = .int .i64 (j : Int) ∧ Hid (∃ v L, Lg wr w.heap.size v L (Plain.S H j) ∧ Plain.LogIs A H j L ∧ Below w.heap.size w wr)) (fun v wr => i - (intOf v).toNat)
      case atStart => exact ⟨0, by omega, rfl, _, _, HG.out.1, Plain.log_start, HG.out.2⟩
      case round =>
        obtain ⟨j, hj, rfl, hr⟩ := hrel
        have hj3 : (j : Int) ≤ 4096 := by omega
        by_cases q2 : (j : Int) < (i : Int)
        · obtain ⟨v, L, r1, r2, r3⟩ := hr.out
          obtain ⟨ba, oa, rfl, ra⟩ := HA.out (by omega)
          obtain ⟨bh, oh, rfl, rh⟩ := HH.out (by omega)
          have k1 := cell_later r3 (ra j (by omega))
          have k2 := cell_later r3 (rh j (by omega))
          have C : Hid (Calls Try.prog 22 #[.pointer (some ⟨w.heap.size, 0, none⟩), .int .i64 (A j), .int .u64 (H j)] wr.drew fun e w' => e = .returned (.tuple #[]) ∧ Stp w.heap.size A H j wr.drew w') := zzrecord_any w.heap.size A H j i L v wr.drew r1.drew r2 HT.out.1 (by omega) (by omega) HT.out.2.1
          have B3 : Hid (Below w.heap.size w wr) := r3
          clear ra rh r1 r2 r3 hr HG
          go_wp2_with fail
          go_region_with (go_at_call 22; refine C.out.mono ?_; rintro e w' ⟨rfl, hst⟩)
          all_goals go_wp2
          all_goals go_roundw
          all_goals first
            | (obtain ⟨b4, v4, L4, g4, l4⟩ := hst; exact ⟨j + 1, by omega, by go_num, v4, L4, g4, l4, (B3.out.drew).trans b4⟩)
            | (simp [intOf]; omega)
        · have ej : j = i := by omega
          subst ej
          go_wp2
          go_ret2
          obtain ⟨v, L, r1, r2, r3⟩ := hr.out
          exact ⟨r3, .inr ⟨_, v, L, rfl, Nat.le_refl _, r1, r2, HT.out.1, HT.out.2.1⟩⟩

end Go.Proofs.Qxb6000630a
