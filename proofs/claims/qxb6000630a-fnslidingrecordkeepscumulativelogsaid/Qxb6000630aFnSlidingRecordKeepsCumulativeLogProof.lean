import Derived.Test.Qxb6000630aRows
import Derived.Test.Qxb6000630aGet
import Derived.WalkKit
import Derived.ProofKit
import Derived.OpenShut
import Derived.ShutString
import Derived.ChangeOld
import Derived.Below
namespace Go.Proofs.Qxb6000630a.fnSlidingRecordKeepsCumulativeLog
open Go.ChangeShapes Go.WideShapes Go.ChangeAt Go.RowKit
open Go.ChangeMaps (open_string shut_string)
set_option linter.unusedVariables false
set_option linter.unusedSimpArgs false

theorem own : ownKnob Try.prog.godebug = none := by kernel_rfl
theorem laidOut : laidOutB Try.prog = true := by kernel_rfl

/-- WHAT THE WALK IS TOLD OF A SLICE OF INTEGERS THAT CAME IN: it is nil; or it leads to a row of 'cap' cells, the numbers 'zs' (the first 'len' are its elements, the rest its spare room), each fitting its kind. -/
def IsRow (k : IntKind) (w : World) (a : Option Addr) (len cap : Nat) (zs : List Int) : Prop :=
  (a = none ∧ len = 0 ∧ cap = 0 ∧ zs = []) ∨
  ∃ x, a = some x ∧ len ≤ cap ∧ cap ≤ maxLen ∧ zs.length = cap ∧ (∀ i, i < zs.length → w.cell? (x.add i) = some (.int k (zs.getD i 0))) ∧ ∀ n ∈ zs, (Lit.int k n).wf = true

theorem IsRow.sl {k : IntKind} {w : World} {a : Option Addr} {len cap : Nat} {zs : List Int} (h : IsRow k w a len cap zs) : Sl k w a len (fun i => zs.getD i 0) := fun h0 => by
  rcases h with ⟨h1, h2, h3, _⟩ | ⟨x, hx, hl, _, hz, hc, _⟩
  · omega
  · have sp : x.spot = none := by
      have := hc 0 (by omega)
      unfold World.cell? at this
      by_cases e : x.spot = none
      · exact e
      · exfalso
        have e' : (x.add 0).spot.isSome = true := by
          show x.spot.isSome = true
          cases hx : x.spot with
          | none => exact absurd hx e
          | some _ => rfl
        rw [e'] at this
        simp at this
        split at this <;> simp at this
    obtain ⟨b, o, s⟩ := x
    obtain rfl : s = none := sp
    refine ⟨b, o, hx, fun i hi => ?_⟩
    have := hc i (by omega)
    rw [Addr.add_lit] at this
    exact this
theorem IsRow.fits {w : World} {a : Option Addr} {len cap : Nat} {zs : List Int} (h : IsRow .u64 w a len cap zs) : ∀ j, j < len → 0 ≤ zs.getD j 0 ∧ zs.getD j 0 < 18446744073709551616 := fun j hj => by
  rcases h with ⟨h1, h2, h3, _⟩ | ⟨x, hx, hl, _, hz, hc, hw⟩
  · omega
  · have hm : zs.getD j 0 ∈ zs := by
      rw [List.getD_eq_getElem?_getD, List.getElem?_eq_getElem (by omega)]
      exact List.getElem_mem (by omega)
    have := hw _ hm
    generalize zs.getD j 0 = x at this ⊢
    simp [Lit.wf, IntKind.min, IntKind.max, IntKind.signed, IntKind.bits] at this
    omega

set_option maxRecDepth 100000 in
set_option maxHeartbeats 8000000 in
theorem walk_lt (ao : Option Addr) (la ca : Nat) (A : Nat → Int) (ho : Option Addr) (lh ch : Nat) (H : Nat → Int) (w : World) (hla : la ≤ 4096) (hlh : lh ≤ 4096) (hlt : lh < la) (ha : Sl .i64 w ao la A) (hh : Sl .u64 w ho lh H) (hu : ∀ j, j < lh → 0 ≤ H j ∧ H j < 18446744073709551616) :
    Calls Try.prog 6 #[.slice ao la ca, .slice ho lh ch] w fun e w' => e = .returned (.bool true) ∧ Below w.heap.size w w' := by
  have C0 : Hid (Sl .i64 w ao la A ∧ Sl .u64 w ho lh H ∧ ∀ j, j < lh → 0 ≤ H j ∧ H j < 18446744073709551616) := ⟨ha, hh, hu⟩
  clear ha hh hu
  have g0 : (la : Int) ≤ 4096 := by omega
  have g1 : (lh : Int) ≤ 4096 := by omega
  have g2 : (lh : Int) < la := by omega
  go_enter Try.func6, Try.ntmps6
  go_wp2_with fail
  refine (bytes14 _ _ _ _ _ _ _).mono ?_
  rintro e w' ⟨b, rfl, hww, hb⟩
  have hww' := hww.symm
  clear hww
  subst hww'
  obtain rfl : b = true := hb hla hlh
  clear hb
  go_wp2_with fail
  refine (run_lt ao ho la ca lh ch A H _ hla hlh hlt C0.out.1 C0.out.2.1 C0.out.2.2).mono ?_
  rintro e ws ⟨hws, rfl | ⟨bl, v, L, rfl, hbl, hg, hl, hv, hs⟩⟩
  · have WS : Hid (Below w.heap.size w ws) := hws
    clear hws C0
    go_wp2_with fail
    go_ret
    exact ⟨rfl, WS.out⟩
  have WS : Hid (Below w.heap.size w ws) := hws
  have G : Hid (Lg ws bl v L (Plain.S H lh)) := hg
  have LI : Hid (Plain.LogIs A H lh L ∧ Plain.Valid A H lh ∧ Plain.S H lh < 18446744073709551616) := ⟨hl, hv, hs⟩
  have HA : Hid (Sl .i64 ws ao la A ∧ Sl .u64 ws ho lh H) := ⟨C0.out.1.kept hws, C0.out.2.1.kept hws⟩
  have SB : Hid (∀ i, i ≤ lh → 0 ≤ Plain.S H i ∧ Plain.S H i < 18446744073709551616) := fun i hi => ⟨Plain.S_pos hv.pos i hi, by have := Plain.S_mono hv.pos hi; omega⟩
  have hm : L.length ≤ 4096 := Nat.le_trans hl.len (by omega)
  have hm' : (L.length : Int) ≤ 4096 := by omega
  clear hws hg hl hv hs C0 hbl
  go_wp2_with fail
  refine (len_any bl v L _ ws G.out).mono ?_
  rintro e w' ⟨rfl, hww⟩
  have hww' := hww.symm
  clear hww
  subst hww'
  go_wp2_with fail
  go_loopw [9, 10] (fun v9 v10 wr => ∃ (k : Nat) (prev : Int), k ≤ L.length ∧ v9 = .int .i64 prev ∧ v10 = .int .i64 (k : Int) ∧ Hid ((0 < k → prev = (L.getD (k - 1) (0, 0)).1) ∧ Below ws.heap.size ws wr)) (fun _ v wr => L.length - (intOf v).toNat)
  case atStart => exact ⟨0, 0, by omega, rfl, rfl, fun h => by omega, Below.refl _ _⟩
  case round =>
    obtain ⟨k, prev, hk, rfl, rfl, hr⟩ := hrel
    have hk3 : (k : Int) ≤ 4096 := by omega
    by_cases q : (k : Int) < (L.length : Int)
    · go_wp2_with fail
      refine (hit_any bl k v L _ wr (G.out.kept hr.out.2) (by omega) hm).mono ?_
      rintro e wh ⟨rfl, hwh⟩
      have W1 : Hid (Below ws.heap.size ws wh) := hr.out.2.trans (hwh.mono hr.out.2.size)
      have hmem := Plain.mem_getD (L := L) (k := k) (by omega)
      have hfr := LI.out.1.frm _ hmem
      rw [hfr.2]
      have hex : Hid (∃ j, j < lh ∧ H j ≠ 0 ∧ A j = (L.getD k (0, 0)).1) := hfr.1
      have hup : 0 < k → prev < (L.getD k (0, 0)).1 := fun h => by
        have := Plain.log_inc LI.out.1 (k := k - 1) (by omega)
        rw [show k - 1 + 1 = k from by omega] at this
        rw [hr.out.1 h]; exact this
      have TE : Hid (∃ t, t = (L.getD k (0, 0)).1) := ⟨_, rfl⟩
      obtain ⟨t, et⟩ := TE.out
      rw [← et] at hex hup ⊢
      have ET : Hid (t = (L.getD k (0, 0)).1) := et
      clear et TE hmem hfr hwh hr
      have nxt : ¬ (0 < (k : Int) ∧ t ≤ prev) := by
        rintro ⟨h1, h2⟩
        have := hup (by omega)
        omega
      have HN : Hid (¬ (0 < (k : Int) ∧ t ≤ prev)) := nxt
      have two : (0 < (k : Int) ∧ prev < t) ∨ ¬ 0 < (k : Int) := by
        by_cases h : 0 < (k : Int)
        · exact .inl ⟨h, hup (by omega)⟩
        · exact .inr h
      clear nxt hup
      rcases two with ⟨p1, p2⟩ | p1
      · have p3 : ¬ t ≤ prev := by omega
        clear HN
        go_wp2_with fail
        go_loopw [13, 14, 15] (fun v13 v14 v15 wr => ∃ (i : Nat) (f : Bool), i ≤ lh ∧ v13 = .int .u64 (Plain.Q A H t i) ∧ v14 = .bool f ∧ v15 = .int .i64 (i : Int) ∧ Hid ((f = true ∨ ∀ j, j < i → H j ≠ 0 → ¬ A j = t) ∧ Below ws.heap.size ws wr)) (fun _ _ v wr => lh - (intOf v).toNat)
        case atStart => exact ⟨0, false, by omega, rfl, rfl, rfl, .inr (fun j hj => by omega), W1.out⟩
        case round =>
          obtain ⟨i, f, hi, rfl, rfl, rfl, hr⟩ := hrel
          have hi3 : (i : Int) ≤ 4096 := by omega
          by_cases q2 : (i : Int) < (lh : Int)
          · obtain ⟨ba, oa, rfl, ra⟩ := HA.out.1 (by omega)
            obtain ⟨bh, oh, rfl, rh⟩ := HA.out.2 (by omega)
            have k1 := cell_later hr.out.2 (ra i (by omega))
            have k2 := cell_later hr.out.2 (rh i (by omega))
            clear ra rh
            have qb := Plain.Q_bounds (a := A) LI.out.2.1.pos t (i + 1) (by omega)
            have sb := SB.out (i + 1) (by omega)
            have qs : Plain.Q A H t (i + 1) = Plain.Q A H t i + (if A i ≤ t then H i else 0) := rfl
            have q0 := (Plain.Q_bounds (a := A) LI.out.2.1.pos t i (by omega)).1
            have hp := LI.out.2.1.pos i (by omega)
            by_cases h0 : H i = 0
            · have e1 : Plain.Q A H t (i + 1) = Plain.Q A H t i := by rw [qs, h0]; simp
              have E1 : Hid (Plain.Q A H t (i + 1) = Plain.Q A H t i) := e1
              have R : Hid ((f = true ∨ ∀ j, j < i + 1 → H j ≠ 0 → ¬ A j = t) ∧ Below ws.heap.size ws wr) := by
                refine ⟨?_, hr.out.2⟩
                rcases hr.out.1 with z | z
                · exact .inl z
                · refine .inr fun j hj hn => ?_
                  by_cases ej : j = i
                  · subst ej; exact absurd h0 hn
                  · exact z j (by omega) hn
              rw [h0] at k2
              clear e1 h0 qb sb qs q0 hp hr
              go_wp2
              go_roundw
              case rel => exact ⟨i + 1, f, by omega, by rw [E1.out], rfl, by go_num, R.out⟩
              case measure => simp [intOf]; omega
            · have d0 : (H i == 0) = false := by simpa using h0
              by_cases hle : A i ≤ t
              · have e1 : Plain.Q A H t (i + 1) = Plain.Q A H t i + H i := by rw [qs, if_pos hle]
                have E1 : Hid (Plain.Q A H t (i + 1) = Plain.Q A H t i + H i) := e1
                have nw : Plain.Q A H t i + H i < 18446744073709551616 := by omega
                by_cases heq : A i = t
                · have R : Hid ((true = true ∨ ∀ j, j < i + 1 → H j ≠ 0 → ¬ A j = t) ∧ Below ws.heap.size ws wr) := ⟨.inl rfl, hr.out.2⟩
                  have d1 : (A i == t) = true := by simpa using heq
                  clear e1 h0 qb sb qs hr heq
                  go_wp2
                  go_roundw
                  case rel => exact ⟨i + 1, true, by omega, by rw [E1.out], rfl, by go_num, R.out⟩
                  case measure => simp [intOf]; omega
                · have R : Hid ((f = true ∨ ∀ j, j < i + 1 → H j ≠ 0 → ¬ A j = t) ∧ Below ws.heap.size ws wr) := by
                    refine ⟨?_, hr.out.2⟩
                    rcases hr.out.1 with z | z
                    · exact .inl z
                    · refine .inr fun j hj hn => ?_
                      by_cases ej : j = i
                      · subst ej; exact heq
                      · exact z j (by omega) hn
                  have d1 : (A i == t) = false := by simpa using heq
                  clear e1 h0 qb sb qs hr heq
                  go_wp2
                  go_roundw
                  case rel => exact ⟨i + 1, f, by omega, by rw [E1.out], rfl, by go_num, R.out⟩
                  case measure => simp [intOf]; omega
              · have e1 : Plain.Q A H t (i + 1) = Plain.Q A H t i := by rw [qs, if_neg hle]; simp
                have E1 : Hid (Plain.Q A H t (i + 1) = Plain.Q A H t i) := e1
                have heq : ¬ A i = t := by omega
                have R : Hid ((f = true ∨ ∀ j, j < i + 1 → H j ≠ 0 → ¬ A j = t) ∧ Below ws.heap.size ws wr) := by
                  refine ⟨?_, hr.out.2⟩
                  rcases hr.out.1 with z | z
                  · exact .inl z
                  · refine .inr fun j hj hn => ?_
                    by_cases ej : j = i
                    · subst ej; exact heq
                    · exact z j (by omega) hn
                have d1 : (A i == t) = false := by simpa using heq
                clear e1 h0 qb sb qs hr heq
                go_wp2
                go_roundw
                case rel => exact ⟨i + 1, f, by omega, by rw [E1.out], rfl, by go_num, R.out⟩
                case measure => simp [intOf]; omega
          · have ei : i = lh := by omega
            have ff : f = true := by
              rcases hr.out.1 with z | z
              · exact z
              · obtain ⟨j, h1, h2, h3⟩ := hex.out
                exact absurd h3 (z j (by omega) h2)
            subst ff
            have B2 : Hid (Below ws.heap.size ws wr) := hr.out.2
            rw [ei]
            clear hr
            go_wp2
            go_roundw
            case rel => exact ⟨k + 1, t, by omega, rfl, by go_num, fun _ => ET.out, B2.out⟩
            case measure => simp [intOf]; omega
      · skip
        clear HN
        go_wp2_with fail
        go_loopw [13, 14, 15] (fun v13 v14 v15 wr => ∃ (i : Nat) (f : Bool), i ≤ lh ∧ v13 = .int .u64 (Plain.Q A H t i) ∧ v14 = .bool f ∧ v15 = .int .i64 (i : Int) ∧ Hid ((f = true ∨ ∀ j, j < i → H j ≠ 0 → ¬ A j = t) ∧ Below ws.heap.size ws wr)) (fun _ _ v wr => lh - (intOf v).toNat)
        case atStart => exact ⟨0, false, by omega, rfl, rfl, rfl, .inr (fun j hj => by omega), W1.out⟩
        case round =>
          obtain ⟨i, f, hi, rfl, rfl, rfl, hr⟩ := hrel
          have hi3 : (i : Int) ≤ 4096 := by omega
          by_cases q2 : (i : Int) < (lh : Int)
          · obtain ⟨ba, oa, rfl, ra⟩ := HA.out.1 (by omega)
            obtain ⟨bh, oh, rfl, rh⟩ := HA.out.2 (by omega)
            have k1 := cell_later hr.out.2 (ra i (by omega))
            have k2 := cell_later hr.out.2 (rh i (by omega))
            clear ra rh
            have qb := Plain.Q_bounds (a := A) LI.out.2.1.pos t (i + 1) (by omega)
            have sb := SB.out (i + 1) (by omega)
            have qs : Plain.Q A H t (i + 1) = Plain.Q A H t i + (if A i ≤ t then H i else 0) := rfl
            have q0 := (Plain.Q_bounds (a := A) LI.out.2.1.pos t i (by omega)).1
            have hp := LI.out.2.1.pos i (by omega)
            by_cases h0 : H i = 0
            · have e1 : Plain.Q A H t (i + 1) = Plain.Q A H t i := by rw [qs, h0]; simp
              have E1 : Hid (Plain.Q A H t (i + 1) = Plain.Q A H t i) := e1
              have R : Hid ((f = true ∨ ∀ j, j < i + 1 → H j ≠ 0 → ¬ A j = t) ∧ Below ws.heap.size ws wr) := by
                refine ⟨?_, hr.out.2⟩
                rcases hr.out.1 with z | z
                · exact .inl z
                · refine .inr fun j hj hn => ?_
                  by_cases ej : j = i
                  · subst ej; exact absurd h0 hn
                  · exact z j (by omega) hn
              rw [h0] at k2
              clear e1 h0 qb sb qs q0 hp hr
              go_wp2
              go_roundw
              case rel => exact ⟨i + 1, f, by omega, by rw [E1.out], rfl, by go_num, R.out⟩
              case measure => simp [intOf]; omega
            · have d0 : (H i == 0) = false := by simpa using h0
              by_cases hle : A i ≤ t
              · have e1 : Plain.Q A H t (i + 1) = Plain.Q A H t i + H i := by rw [qs, if_pos hle]
                have E1 : Hid (Plain.Q A H t (i + 1) = Plain.Q A H t i + H i) := e1
                have nw : Plain.Q A H t i + H i < 18446744073709551616 := by omega
                by_cases heq : A i = t
                · have R : Hid ((true = true ∨ ∀ j, j < i + 1 → H j ≠ 0 → ¬ A j = t) ∧ Below ws.heap.size ws wr) := ⟨.inl rfl, hr.out.2⟩
                  have d1 : (A i == t) = true := by simpa using heq
                  clear e1 h0 qb sb qs hr heq
                  go_wp2
                  go_roundw
                  case rel => exact ⟨i + 1, true, by omega, by rw [E1.out], rfl, by go_num, R.out⟩
                  case measure => simp [intOf]; omega
                · have R : Hid ((f = true ∨ ∀ j, j < i + 1 → H j ≠ 0 → ¬ A j = t) ∧ Below ws.heap.size ws wr) := by
                    refine ⟨?_, hr.out.2⟩
                    rcases hr.out.1 with z | z
                    · exact .inl z
                    · refine .inr fun j hj hn => ?_
                      by_cases ej : j = i
                      · subst ej; exact heq
                      · exact z j (by omega) hn
                  have d1 : (A i == t) = false := by simpa using heq
                  clear e1 h0 qb sb qs hr heq
                  go_wp2
                  go_roundw
                  case rel => exact ⟨i + 1, f, by omega, by rw [E1.out], rfl, by go_num, R.out⟩
                  case measure => simp [intOf]; omega
              · have e1 : Plain.Q A H t (i + 1) = Plain.Q A H t i := by rw [qs, if_neg hle]; simp
                have E1 : Hid (Plain.Q A H t (i + 1) = Plain.Q A H t i) := e1
                have heq : ¬ A i = t := by omega
                have R : Hid ((f = true ∨ ∀ j, j < i + 1 → H j ≠ 0 → ¬ A j = t) ∧ Below ws.heap.size ws wr) := by
                  refine ⟨?_, hr.out.2⟩
                  rcases hr.out.1 with z | z
                  · exact .inl z
                  · refine .inr fun j hj hn => ?_
                    by_cases ej : j = i
                    · subst ej; exact heq
                    · exact z j (by omega) hn
                have d1 : (A i == t) = false := by simpa using heq
                clear e1 h0 qb sb qs hr heq
                go_wp2
                go_roundw
                case rel => exact ⟨i + 1, f, by omega, by rw [E1.out], rfl, by go_num, R.out⟩
                case measure => simp [intOf]; omega
          · have ei : i = lh := by omega
            have ff : f = true := by
              rcases hr.out.1 with z | z
              · exact z
              · obtain ⟨j, h1, h2, h3⟩ := hex.out
                exact absurd h3 (z j (by omega) h2)
            subst ff
            have B2 : Hid (Below ws.heap.size ws wr) := hr.out.2
            rw [ei]
            clear hr
            go_wp2
            go_roundw
            case rel => exact ⟨k + 1, t, by omega, rfl, by go_num, fun _ => ET.out, B2.out⟩
            case measure => simp [intOf]; omega
    · go_wp2_with fail
      have B0 : Hid (Below ws.heap.size ws wr) := hr.out.2
      clear hr
      go_loopw [16, 17] (fun v16 v17 wr => ∃ i : Nat, i ≤ lh ∧ v16 = .int .u64 (Plain.S H i) ∧ v17 = .int .i64 (i : Int) ∧ Hid (Below ws.heap.size ws wr)) (fun _ v wr => lh - (intOf v).toNat)
      case atStart => exact ⟨0, by omega, rfl, rfl, B0.out⟩
      case round =>
        clear B0
        obtain ⟨i, hi, rfl, rfl, hr⟩ := hrel
        have hi3 : (i : Int) ≤ 4096 := by omega
        by_cases q2 : (i : Int) < (lh : Int)
        · obtain ⟨ba, oa, rfl, ra⟩ := HA.out.1 (by omega)
          obtain ⟨bh, oh, rfl, rh⟩ := HA.out.2 (by omega)
          have k2 := cell_later hr.out (rh i (by omega))
          have RA : Hid (ws.cell? ⟨ba, oa + i, none⟩ = some (.int .i64 (A i))) := ra i (by omega)
          clear ra rh
          have s0 := (SB.out i (by omega)).1
          have sb : Plain.S H i + H i < 18446744073709551616 := (SB.out (i + 1) (by omega)).2
          have hp := LI.out.2.1.pos i (by omega)
          by_cases h0 : H i = 0
          · have E1 : Hid (Plain.S H (i + 1) = Plain.S H i) := by show Plain.S H i + H i = _; rw [h0]; simp
            rw [h0] at k2
            clear h0 sb hp
            go_wp2
            go_roundw
            case rel => exact ⟨i + 1, by omega, by rw [E1.out], by go_num, hr.out⟩
            case measure => simp [intOf]; omega
          · have d0 : (H i == 0) = false := by simpa using h0
            have NZ : Hid (H i ≠ 0) := h0
            clear h0
            go_wp2_with fail
            have B0 : Hid (Below ws.heap.size ws wr) := hr.out
            go_loopw [18, 19] (fun v18 v19 wr => ∃ (k : Nat) (f : Bool), k ≤ L.length ∧ v18 = .bool f ∧ v19 = .int .i64 (k : Int) ∧ Hid ((f = true ∨ ∀ j, j < k → ¬ (L.getD j (0, 0)).1 = A i) ∧ Below ws.heap.size ws wr)) (fun _ v wr => L.length - (intOf v).toNat)
            case atStart => exact ⟨0, false, by omega, rfl, rfl, .inr (fun j hj => by omega), B0.out⟩
            case round =>
              clear B0 hr k2
              obtain ⟨k, f, hk, rfl, rfl, hr⟩ := hrel
              have hk3 : (k : Int) ≤ 4096 := by omega
              by_cases q3 : (k : Int) < (L.length : Int)
              · go_wp2_with fail
                refine (hit_any bl k v L _ wr (G.out.kept hr.out.2) (by omega) hm).mono ?_
                rintro e wh ⟨rfl, hwh⟩
                have W1 : Hid (Below ws.heap.size ws wh) := hr.out.2.trans (hwh.mono hr.out.2.size)
                have k1 := cell_later W1.out RA.out
                clear hwh
                by_cases heq : (L.getD k (0, 0)).1 = A i
                · have d1 : ((L.getD k (0, 0)).1 == A i) = true := by simpa using heq
                  clear heq
                  generalize (L.getD k (0, 0)).1 = x at d1 ⊢
                  generalize (L.getD k (0, 0)).2 = y
                  go_wp2
                  go_roundw
                  case rel => exact ⟨k + 1, true, by omega, rfl, by go_num, .inl rfl, W1.out⟩
                  case measure => simp [intOf]; omega
                · have d1 : ((L.getD k (0, 0)).1 == A i) = false := by simpa using heq
                  have R : Hid (f = true ∨ ∀ j, j < k + 1 → ¬ (L.getD j (0, 0)).1 = A i) := by
                    rcases hr.out.1 with z | z
                    · exact .inl z
                    · refine .inr fun j hj => ?_
                      by_cases ej : j = k
                      · subst ej; exact heq
                      · exact z j (by omega)
                  clear heq
                  generalize (L.getD k (0, 0)).1 = x at d1 ⊢
                  generalize (L.getD k (0, 0)).2 = y
                  go_wp2
                  go_roundw
                  case rel => exact ⟨k + 1, f, by omega, rfl, by go_num, R.out, W1.out⟩
                  case measure => simp [intOf]; omega
              · have ff : f = true := by
                  rcases hr.out.1 with z | z
                  · exact z
                  · obtain ⟨p, hp1, hp2⟩ := LI.out.1.all i (by omega) NZ.out
                    obtain ⟨j, hj, ej⟩ := Plain.getD_mem hp1
                    exact absurd (by rw [ej]; exact hp2) (z j (by omega))
                subst ff
                have B2 : Hid (Below ws.heap.size ws wr) := hr.out.2
                clear hr
                go_wp2
                go_roundw
                case rel => exact ⟨i + 1, by omega, rfl, by go_num, B2.out⟩
                case measure => simp [intOf]; omega
        · have ei : i = lh := by omega
          have Gr := G.out.kept hr.out
          have c1 := Gr.c1
          have c2 := Gr.c2
          have c3 := Gr.c3
          rw [ei]
          have FB : Hid (Below w.heap.size w wr) := WS.out.trans (hr.out.mono WS.out.size)
          clear Gr hr
          go_wp2
          go_ret
          exact ⟨rfl, FB.out⟩

set_option maxRecDepth 100000 in
set_option maxHeartbeats 8000000 in
theorem walk_ge (ao : Option Addr) (la ca : Nat) (A : Nat → Int) (ho : Option Addr) (lh ch : Nat) (H : Nat → Int) (w : World) (hla : la ≤ 4096) (hlh : lh ≤ 4096) (hlt : ¬ lh < la) (ha : Sl .i64 w ao la A) (hh : Sl .u64 w ho lh H) (hu : ∀ j, j < lh → 0 ≤ H j ∧ H j < 18446744073709551616) :
    Calls Try.prog 6 #[.slice ao la ca, .slice ho lh ch] w fun e w' => e = .returned (.bool true) ∧ Below w.heap.size w w' := by
  have C0 : Hid (Sl .i64 w ao la A ∧ Sl .u64 w ho lh H ∧ ∀ j, j < lh → 0 ≤ H j ∧ H j < 18446744073709551616) := ⟨ha, hh, hu⟩
  clear ha hh hu
  have g0 : (la : Int) ≤ 4096 := by omega
  have g1 : (lh : Int) ≤ 4096 := by omega
  have g2 : ¬ (lh : Int) < la := by omega
  go_enter Try.func6, Try.ntmps6
  go_wp2_with fail
  refine (bytes14 _ _ _ _ _ _ _).mono ?_
  rintro e w' ⟨b, rfl, hww, hb⟩
  have hww' := hww.symm
  clear hww
  subst hww'
  obtain rfl : b = true := hb hla hlh
  clear hb
  go_wp2_with fail
  refine (run_ge ao ho la ca lh ch A H _ hla hlh hlt C0.out.1 C0.out.2.1 C0.out.2.2).mono ?_
  rintro e ws ⟨hws, rfl | ⟨bl, v, L, rfl, hbl, hg, hl, hv, hs⟩⟩
  · have WS : Hid (Below w.heap.size w ws) := hws
    clear hws C0
    go_wp2_with fail
    go_ret
    exact ⟨rfl, WS.out⟩
  have WS : Hid (Below w.heap.size w ws) := hws
  have G : Hid (Lg ws bl v L (Plain.S H la)) := hg
  have LI : Hid (Plain.LogIs A H la L ∧ Plain.Valid A H la ∧ Plain.S H la < 18446744073709551616) := ⟨hl, hv, hs⟩
  have HA : Hid (Sl .i64 ws ao la A ∧ Sl .u64 ws ho lh H) := ⟨C0.out.1.kept hws, C0.out.2.1.kept hws⟩
  have SB : Hid (∀ i, i ≤ la → 0 ≤ Plain.S H i ∧ Plain.S H i < 18446744073709551616) := fun i hi => ⟨Plain.S_pos hv.pos i hi, by have := Plain.S_mono hv.pos hi; omega⟩
  have hm : L.length ≤ 4096 := Nat.le_trans hl.len (by omega)
  have hm' : (L.length : Int) ≤ 4096 := by omega
  clear hws hg hl hv hs C0 hbl
  go_wp2_with fail
  refine (len_any bl v L _ ws G.out).mono ?_
  rintro e w' ⟨rfl, hww⟩
  have hww' := hww.symm
  clear hww
  subst hww'
  go_wp2_with fail
  go_loopw [9, 10] (fun v9 v10 wr => ∃ (k : Nat) (prev : Int), k ≤ L.length ∧ v9 = .int .i64 prev ∧ v10 = .int .i64 (k : Int) ∧ Hid ((0 < k → prev = (L.getD (k - 1) (0, 0)).1) ∧ Below ws.heap.size ws wr)) (fun _ v wr => L.length - (intOf v).toNat)
  case atStart => exact ⟨0, 0, by omega, rfl, rfl, fun h => by omega, Below.refl _ _⟩
  case round =>
    obtain ⟨k, prev, hk, rfl, rfl, hr⟩ := hrel
    have hk3 : (k : Int) ≤ 4096 := by omega
    by_cases q : (k : Int) < (L.length : Int)
    · go_wp2_with fail
      refine (hit_any bl k v L _ wr (G.out.kept hr.out.2) (by omega) hm).mono ?_
      rintro e wh ⟨rfl, hwh⟩
      have W1 : Hid (Below ws.heap.size ws wh) := hr.out.2.trans (hwh.mono hr.out.2.size)
      have hmem := Plain.mem_getD (L := L) (k := k) (by omega)
      have hfr := LI.out.1.frm _ hmem
      rw [hfr.2]
      have hex : Hid (∃ j, j < la ∧ H j ≠ 0 ∧ A j = (L.getD k (0, 0)).1) := hfr.1
      have hup : 0 < k → prev < (L.getD k (0, 0)).1 := fun h => by
        have := Plain.log_inc LI.out.1 (k := k - 1) (by omega)
        rw [show k - 1 + 1 = k from by omega] at this
        rw [hr.out.1 h]; exact this
      have TE : Hid (∃ t, t = (L.getD k (0, 0)).1) := ⟨_, rfl⟩
      obtain ⟨t, et⟩ := TE.out
      rw [← et] at hex hup ⊢
      have ET : Hid (t = (L.getD k (0, 0)).1) := et
      clear et TE hmem hfr hwh hr
      have nxt : ¬ (0 < (k : Int) ∧ t ≤ prev) := by
        rintro ⟨h1, h2⟩
        have := hup (by omega)
        omega
      have HN : Hid (¬ (0 < (k : Int) ∧ t ≤ prev)) := nxt
      have two : (0 < (k : Int) ∧ prev < t) ∨ ¬ 0 < (k : Int) := by
        by_cases h : 0 < (k : Int)
        · exact .inl ⟨h, hup (by omega)⟩
        · exact .inr h
      clear nxt hup
      rcases two with ⟨p1, p2⟩ | p1
      · have p3 : ¬ t ≤ prev := by omega
        clear HN
        go_wp2_with fail
        go_loopw [13, 14, 15] (fun v13 v14 v15 wr => ∃ (i : Nat) (f : Bool), i ≤ la ∧ v13 = .int .u64 (Plain.Q A H t i) ∧ v14 = .bool f ∧ v15 = .int .i64 (i : Int) ∧ Hid ((f = true ∨ ∀ j, j < i → H j ≠ 0 → ¬ A j = t) ∧ Below ws.heap.size ws wr)) (fun _ _ v wr => la - (intOf v).toNat)
        case atStart => exact ⟨0, false, by omega, rfl, rfl, rfl, .inr (fun j hj => by omega), W1.out⟩
        case round =>
          obtain ⟨i, f, hi, rfl, rfl, rfl, hr⟩ := hrel
          have hi3 : (i : Int) ≤ 4096 := by omega
          by_cases q2 : (i : Int) < (la : Int)
          · obtain ⟨ba, oa, rfl, ra⟩ := HA.out.1 (by omega)
            obtain ⟨bh, oh, rfl, rh⟩ := HA.out.2 (by omega)
            have k1 := cell_later hr.out.2 (ra i (by omega))
            have k2 := cell_later hr.out.2 (rh i (by omega))
            clear ra rh
            have qb := Plain.Q_bounds (a := A) LI.out.2.1.pos t (i + 1) (by omega)
            have sb := SB.out (i + 1) (by omega)
            have qs : Plain.Q A H t (i + 1) = Plain.Q A H t i + (if A i ≤ t then H i else 0) := rfl
            have q0 := (Plain.Q_bounds (a := A) LI.out.2.1.pos t i (by omega)).1
            have hp := LI.out.2.1.pos i (by omega)
            by_cases h0 : H i = 0
            · have e1 : Plain.Q A H t (i + 1) = Plain.Q A H t i := by rw [qs, h0]; simp
              have E1 : Hid (Plain.Q A H t (i + 1) = Plain.Q A H t i) := e1
              have R : Hid ((f = true ∨ ∀ j, j < i + 1 → H j ≠ 0 → ¬ A j = t) ∧ Below ws.heap.size ws wr) := by
                refine ⟨?_, hr.out.2⟩
                rcases hr.out.1 with z | z
                · exact .inl z
                · refine .inr fun j hj hn => ?_
                  by_cases ej : j = i
                  · subst ej; exact absurd h0 hn
                  · exact z j (by omega) hn
              rw [h0] at k2
              clear e1 h0 qb sb qs q0 hp hr
              go_wp2
              go_roundw
              case rel => exact ⟨i + 1, f, by omega, by rw [E1.out], rfl, by go_num, R.out⟩
              case measure => simp [intOf]; omega
            · have d0 : (H i == 0) = false := by simpa using h0
              by_cases hle : A i ≤ t
              · have e1 : Plain.Q A H t (i + 1) = Plain.Q A H t i + H i := by rw [qs, if_pos hle]
                have E1 : Hid (Plain.Q A H t (i + 1) = Plain.Q A H t i + H i) := e1
                have nw : Plain.Q A H t i + H i < 18446744073709551616 := by omega
                by_cases heq : A i = t
                · have R : Hid ((true = true ∨ ∀ j, j < i + 1 → H j ≠ 0 → ¬ A j = t) ∧ Below ws.heap.size ws wr) := ⟨.inl rfl, hr.out.2⟩
                  have d1 : (A i == t) = true := by simpa using heq
                  clear e1 h0 qb sb qs hr heq
                  go_wp2
                  go_roundw
                  case rel => exact ⟨i + 1, true, by omega, by rw [E1.out], rfl, by go_num, R.out⟩
                  case measure => simp [intOf]; omega
                · have R : Hid ((f = true ∨ ∀ j, j < i + 1 → H j ≠ 0 → ¬ A j = t) ∧ Below ws.heap.size ws wr) := by
                    refine ⟨?_, hr.out.2⟩
                    rcases hr.out.1 with z | z
                    · exact .inl z
                    · refine .inr fun j hj hn => ?_
                      by_cases ej : j = i
                      · subst ej; exact heq
                      · exact z j (by omega) hn
                  have d1 : (A i == t) = false := by simpa using heq
                  clear e1 h0 qb sb qs hr heq
                  go_wp2
                  go_roundw
                  case rel => exact ⟨i + 1, f, by omega, by rw [E1.out], rfl, by go_num, R.out⟩
                  case measure => simp [intOf]; omega
              · have e1 : Plain.Q A H t (i + 1) = Plain.Q A H t i := by rw [qs, if_neg hle]; simp
                have E1 : Hid (Plain.Q A H t (i + 1) = Plain.Q A H t i) := e1
                have heq : ¬ A i = t := by omega
                have R : Hid ((f = true ∨ ∀ j, j < i + 1 → H j ≠ 0 → ¬ A j = t) ∧ Below ws.heap.size ws wr) := by
                  refine ⟨?_, hr.out.2⟩
                  rcases hr.out.1 with z | z
                  · exact .inl z
                  · refine .inr fun j hj hn => ?_
                    by_cases ej : j = i
                    · subst ej; exact heq
                    · exact z j (by omega) hn
                have d1 : (A i == t) = false := by simpa using heq
                clear e1 h0 qb sb qs hr heq
                go_wp2
                go_roundw
                case rel => exact ⟨i + 1, f, by omega, by rw [E1.out], rfl, by go_num, R.out⟩
                case measure => simp [intOf]; omega
          · have ei : i = la := by omega
            have ff : f = true := by
              rcases hr.out.1 with z | z
              · exact z
              · obtain ⟨j, h1, h2, h3⟩ := hex.out
                exact absurd h3 (z j (by omega) h2)
            subst ff
            have B2 : Hid (Below ws.heap.size ws wr) := hr.out.2
            rw [ei]
            clear hr
            go_wp2
            go_roundw
            case rel => exact ⟨k + 1, t, by omega, rfl, by go_num, fun _ => ET.out, B2.out⟩
            case measure => simp [intOf]; omega
      · skip
        clear HN
        go_wp2_with fail
        go_loopw [13, 14, 15] (fun v13 v14 v15 wr => ∃ (i : Nat) (f : Bool), i ≤ la ∧ v13 = .int .u64 (Plain.Q A H t i) ∧ v14 = .bool f ∧ v15 = .int .i64 (i : Int) ∧ Hid ((f = true ∨ ∀ j, j < i → H j ≠ 0 → ¬ A j = t) ∧ Below ws.heap.size ws wr)) (fun _ _ v wr => la - (intOf v).toNat)
        case atStart => exact ⟨0, false, by omega, rfl, rfl, rfl, .inr (fun j hj => by omega), W1.out⟩
        case round =>
          obtain ⟨i, f, hi, rfl, rfl, rfl, hr⟩ := hrel
          have hi3 : (i : Int) ≤ 4096 := by omega
          by_cases q2 : (i : Int) < (la : Int)
          · obtain ⟨ba, oa, rfl, ra⟩ := HA.out.1 (by omega)
            obtain ⟨bh, oh, rfl, rh⟩ := HA.out.2 (by omega)
            have k1 := cell_later hr.out.2 (ra i (by omega))
            have k2 := cell_later hr.out.2 (rh i (by omega))
            clear ra rh
            have qb := Plain.Q_bounds (a := A) LI.out.2.1.pos t (i + 1) (by omega)
            have sb := SB.out (i + 1) (by omega)
            have qs : Plain.Q A H t (i + 1) = Plain.Q A H t i + (if A i ≤ t then H i else 0) := rfl
            have q0 := (Plain.Q_bounds (a := A) LI.out.2.1.pos t i (by omega)).1
            have hp := LI.out.2.1.pos i (by omega)
            by_cases h0 : H i = 0
            · have e1 : Plain.Q A H t (i + 1) = Plain.Q A H t i := by rw [qs, h0]; simp
              have E1 : Hid (Plain.Q A H t (i + 1) = Plain.Q A H t i) := e1
              have R : Hid ((f = true ∨ ∀ j, j < i + 1 → H j ≠ 0 → ¬ A j = t) ∧ Below ws.heap.size ws wr) := by
                refine ⟨?_, hr.out.2⟩
                rcases hr.out.1 with z | z
                · exact .inl z
                · refine .inr fun j hj hn => ?_
                  by_cases ej : j = i
                  · subst ej; exact absurd h0 hn
                  · exact z j (by omega) hn
              rw [h0] at k2
              clear e1 h0 qb sb qs q0 hp hr
              go_wp2
              go_roundw
              case rel => exact ⟨i + 1, f, by omega, by rw [E1.out], rfl, by go_num, R.out⟩
              case measure => simp [intOf]; omega
            · have d0 : (H i == 0) = false := by simpa using h0
              by_cases hle : A i ≤ t
              · have e1 : Plain.Q A H t (i + 1) = Plain.Q A H t i + H i := by rw [qs, if_pos hle]
                have E1 : Hid (Plain.Q A H t (i + 1) = Plain.Q A H t i + H i) := e1
                have nw : Plain.Q A H t i + H i < 18446744073709551616 := by omega
                by_cases heq : A i = t
                · have R : Hid ((true = true ∨ ∀ j, j < i + 1 → H j ≠ 0 → ¬ A j = t) ∧ Below ws.heap.size ws wr) := ⟨.inl rfl, hr.out.2⟩
                  have d1 : (A i == t) = true := by simpa using heq
                  clear e1 h0 qb sb qs hr heq
                  go_wp2
                  go_roundw
                  case rel => exact ⟨i + 1, true, by omega, by rw [E1.out], rfl, by go_num, R.out⟩
                  case measure => simp [intOf]; omega
                · have R : Hid ((f = true ∨ ∀ j, j < i + 1 → H j ≠ 0 → ¬ A j = t) ∧ Below ws.heap.size ws wr) := by
                    refine ⟨?_, hr.out.2⟩
                    rcases hr.out.1 with z | z
                    · exact .inl z
                    · refine .inr fun j hj hn => ?_
                      by_cases ej : j = i
                      · subst ej; exact heq
                      · exact z j (by omega) hn
                  have d1 : (A i == t) = false := by simpa using heq
                  clear e1 h0 qb sb qs hr heq
                  go_wp2
                  go_roundw
                  case rel => exact ⟨i + 1, f, by omega, by rw [E1.out], rfl, by go_num, R.out⟩
                  case measure => simp [intOf]; omega
              · have e1 : Plain.Q A H t (i + 1) = Plain.Q A H t i := by rw [qs, if_neg hle]; simp
                have E1 : Hid (Plain.Q A H t (i + 1) = Plain.Q A H t i) := e1
                have heq : ¬ A i = t := by omega
                have R : Hid ((f = true ∨ ∀ j, j < i + 1 → H j ≠ 0 → ¬ A j = t) ∧ Below ws.heap.size ws wr) := by
                  refine ⟨?_, hr.out.2⟩
                  rcases hr.out.1 with z | z
                  · exact .inl z
                  · refine .inr fun j hj hn => ?_
                    by_cases ej : j = i
                    · subst ej; exact heq
                    · exact z j (by omega) hn
                have d1 : (A i == t) = false := by simpa using heq
                clear e1 h0 qb sb qs hr heq
                go_wp2
                go_roundw
                case rel => exact ⟨i + 1, f, by omega, by rw [E1.out], rfl, by go_num, R.out⟩
                case measure => simp [intOf]; omega
          · have ei : i = la := by omega
            have ff : f = true := by
              rcases hr.out.1 with z | z
              · exact z
              · obtain ⟨j, h1, h2, h3⟩ := hex.out
                exact absurd h3 (z j (by omega) h2)
            subst ff
            have B2 : Hid (Below ws.heap.size ws wr) := hr.out.2
            rw [ei]
            clear hr
            go_wp2
            go_roundw
            case rel => exact ⟨k + 1, t, by omega, rfl, by go_num, fun _ => ET.out, B2.out⟩
            case measure => simp [intOf]; omega
    · go_wp2_with fail
      have B0 : Hid (Below ws.heap.size ws wr) := hr.out.2
      clear hr
      go_loopw [16, 17] (fun v16 v17 wr => ∃ i : Nat, i ≤ la ∧ v16 = .int .u64 (Plain.S H i) ∧ v17 = .int .i64 (i : Int) ∧ Hid (Below ws.heap.size ws wr)) (fun _ v wr => la - (intOf v).toNat)
      case atStart => exact ⟨0, by omega, rfl, rfl, B0.out⟩
      case round =>
        clear B0
        obtain ⟨i, hi, rfl, rfl, hr⟩ := hrel
        have hi3 : (i : Int) ≤ 4096 := by omega
        by_cases q2 : (i : Int) < (la : Int)
        · obtain ⟨ba, oa, rfl, ra⟩ := HA.out.1 (by omega)
          obtain ⟨bh, oh, rfl, rh⟩ := HA.out.2 (by omega)
          have k2 := cell_later hr.out (rh i (by omega))
          have RA : Hid (ws.cell? ⟨ba, oa + i, none⟩ = some (.int .i64 (A i))) := ra i (by omega)
          clear ra rh
          have s0 := (SB.out i (by omega)).1
          have sb : Plain.S H i + H i < 18446744073709551616 := (SB.out (i + 1) (by omega)).2
          have hp := LI.out.2.1.pos i (by omega)
          by_cases h0 : H i = 0
          · have E1 : Hid (Plain.S H (i + 1) = Plain.S H i) := by show Plain.S H i + H i = _; rw [h0]; simp
            rw [h0] at k2
            clear h0 sb hp
            go_wp2
            go_roundw
            case rel => exact ⟨i + 1, by omega, by rw [E1.out], by go_num, hr.out⟩
            case measure => simp [intOf]; omega
          · have d0 : (H i == 0) = false := by simpa using h0
            have NZ : Hid (H i ≠ 0) := h0
            clear h0
            go_wp2_with fail
            have B0 : Hid (Below ws.heap.size ws wr) := hr.out
            go_loopw [18, 19] (fun v18 v19 wr => ∃ (k : Nat) (f : Bool), k ≤ L.length ∧ v18 = .bool f ∧ v19 = .int .i64 (k : Int) ∧ Hid ((f = true ∨ ∀ j, j < k → ¬ (L.getD j (0, 0)).1 = A i) ∧ Below ws.heap.size ws wr)) (fun _ v wr => L.length - (intOf v).toNat)
            case atStart => exact ⟨0, false, by omega, rfl, rfl, .inr (fun j hj => by omega), B0.out⟩
            case round =>
              clear B0 hr k2
              obtain ⟨k, f, hk, rfl, rfl, hr⟩ := hrel
              have hk3 : (k : Int) ≤ 4096 := by omega
              by_cases q3 : (k : Int) < (L.length : Int)
              · go_wp2_with fail
                refine (hit_any bl k v L _ wr (G.out.kept hr.out.2) (by omega) hm).mono ?_
                rintro e wh ⟨rfl, hwh⟩
                have W1 : Hid (Below ws.heap.size ws wh) := hr.out.2.trans (hwh.mono hr.out.2.size)
                have k1 := cell_later W1.out RA.out
                clear hwh
                by_cases heq : (L.getD k (0, 0)).1 = A i
                · have d1 : ((L.getD k (0, 0)).1 == A i) = true := by simpa using heq
                  clear heq
                  generalize (L.getD k (0, 0)).1 = x at d1 ⊢
                  generalize (L.getD k (0, 0)).2 = y
                  go_wp2
                  go_roundw
                  case rel => exact ⟨k + 1, true, by omega, rfl, by go_num, .inl rfl, W1.out⟩
                  case measure => simp [intOf]; omega
                · have d1 : ((L.getD k (0, 0)).1 == A i) = false := by simpa using heq
                  have R : Hid (f = true ∨ ∀ j, j < k + 1 → ¬ (L.getD j (0, 0)).1 = A i) := by
                    rcases hr.out.1 with z | z
                    · exact .inl z
                    · refine .inr fun j hj => ?_
                      by_cases ej : j = k
                      · subst ej; exact heq
                      · exact z j (by omega)
                  clear heq
                  generalize (L.getD k (0, 0)).1 = x at d1 ⊢
                  generalize (L.getD k (0, 0)).2 = y
                  go_wp2
                  go_roundw
                  case rel => exact ⟨k + 1, f, by omega, rfl, by go_num, R.out, W1.out⟩
                  case measure => simp [intOf]; omega
              · have ff : f = true := by
                  rcases hr.out.1 with z | z
                  · exact z
                  · obtain ⟨p, hp1, hp2⟩ := LI.out.1.all i (by omega) NZ.out
                    obtain ⟨j, hj, ej⟩ := Plain.getD_mem hp1
                    exact absurd (by rw [ej]; exact hp2) (z j (by omega))
                subst ff
                have B2 : Hid (Below ws.heap.size ws wr) := hr.out.2
                clear hr
                go_wp2
                go_roundw
                case rel => exact ⟨i + 1, by omega, rfl, by go_num, B2.out⟩
                case measure => simp [intOf]; omega
        · have ei : i = la := by omega
          have Gr := G.out.kept hr.out
          have c1 := Gr.c1
          have c2 := Gr.c2
          have c3 := Gr.c3
          rw [ei]
          have FB : Hid (Below w.heap.size w wr) := WS.out.trans (hr.out.mono WS.out.size)
          clear Gr hr
          go_wp2
          go_ret
          exact ⟨rfl, FB.out⟩

set_option maxHeartbeats 1000000 in
theorem walk_idle (ao : Option Addr) (la ca : Nat) (ho : Option Addr) (lh ch : Nat) (w : World) (h : 4096 < la ∨ 4096 < lh) :
    Calls Try.prog 6 #[.slice ao la ca, .slice ho lh ch] w fun e w' => e = .returned (.bool true) ∧ Below w.heap.size w w' := by
  have HH : Hid (4096 < la ∨ 4096 < lh) := h
  clear h
  go_enter Try.func6, Try.ntmps6
  go_wp2_with fail
  refine (bytes14 _ _ _ _ _ _ _).mono ?_
  rintro e w' ⟨b, rfl, rfl, hb⟩
  clear hb
  cases b with
  | false =>
    go_wp2_with fail
    go_ret
    exact ⟨rfl, Below.refl _ _⟩
  | true =>
    by_cases q1 : (4096 : Int) < la
    · go_wp2_with fail
      go_ret
      exact ⟨rfl, Below.refl _ _⟩
    · have q2 : (4096 : Int) < lh := by have := HH.out; omega
      go_wp2_with fail
      go_ret
      exact ⟨rfl, Below.refl _ _⟩

theorem walk (a0 : Option Addr) (len0 cap0 : Nat) (z0 : List Int) (a1 : Option Addr) (len1 cap1 : Nat) (z1 : List Int) (w : World) (w0 : IsRow .i64 w a0 len0 cap0 z0) (w1 : IsRow .u64 w a1 len1 cap1 z1) :
    Calls Try.prog 6 #[.slice a0 len0 cap0, .slice a1 len1 cap1] w fun e w' => e = .returned (.bool true) ∧ Below w.heap.size w w' := by
  by_cases h : 4096 < len0 ∨ 4096 < len1
  · exact walk_idle a0 len0 cap0 a1 len1 cap1 w h
  · by_cases hl : len1 < len0
    · exact walk_lt a0 len0 cap0 (fun i => z0.getD i 0) a1 len1 cap1 (fun i => z1.getD i 0) w (by omega) (by omega) hl w0.sl w1.sl w1.fits
    · exact walk_ge a0 len0 cap0 (fun i => z0.getD i 0) a1 len1 cap1 (fun i => z1.getD i 0) w (by omega) (by omega) hl w0.sl w1.sl w1.fits

/-! ### THE ROW's STEP: WRITTEN OUT: LEAVE IT -/
set_option maxRecDepth 100000 in
theorem lifted (os : Os) (started : os.Started) (H : Type) (enc : TypeId × Value → H) :
    ReturnsInHanded {} Try.checked os 6 .any (Rows.fnSlidingRecordKeepsCumulativeLogSpec.pre6 enc Try.prog Try.f6 Rows.fnSlidingRecordKeepsCumulativeLogRow.domain false) (Rows.fnSlidingRecordKeepsCumulativeLogSpec.post enc Try.prog Try.f6 false true false false) := by
  refine returnsInHanded_of_change (C := Try.checked) own started (by kernel_rfl) Try.func6
    (ChangeSpec.witness6 (enc := enc) (C := Try.checked) false ⟨#[], #[.slice none 0 0, .slice none 0 0], []⟩ 8 (by kernel_rfl) (by kernel_rfl) (by kernel_rfl) (by kernel_rfl)) ?_
  intro W base args ds gs before hval0 hW hcnd _
  have hval : ∀ (j : Nat) t v, Try.f6.params[j]? = some t → args[j]? = some v → Value.okWide Try.prog W .any base t v := hval0
  have hW' := hW
  obtain ⟨p, q, hA0, hV, rfl, hfz, hnd⟩ := hW
  have hA : DataW.TrodAll enc Try.prog W 0 (fun _ => true) true Try.f6.params.toList args.toList ds p := hA0
  rw [Try.params6] at hA hval
  obtain ⟨v0, vs0, d0, ds0, p0, q0, hargs, rfl, rfl, h0, r0⟩ := trodAll_cons hA
  obtain ⟨v1, vs1, d1, ds1, p1, q1, rfl, rfl, rfl, h1, r1⟩ := trodAll_cons r0
  obtain ⟨rfl, rfl, rfl⟩ := trodAll_nil r1
  obtain rfl : args = #[v0, v1] := by cases args; simp_all
  obtain ⟨rfl, rfl⟩ := trodVars_none hV
  obtain ⟨a0, len0, cap0, rfl⟩ := okWide_slice Try.underlying27 (hval 0 27 v0 rfl rfl)
  have k0 := h0
  have lt0 : ∀ x ∈ p0, x.block < W.heap.size := by obtain ⟨m, hm⟩ := k0; exact DataW.trod_lt m _ _ _ hm
  obtain ⟨z0, w0⟩ : ∃ zs, IsRow .i64 W a0 len0 cap0 zs := by
    obtain ⟨fuel, hf⟩ := h0
    rcases open_ints Try.underlying27 Try.underlying2 (by kernel_rfl) hf with ⟨hcs, _⟩ | ⟨x, l, c, zs, hcs, _, hl, hm, hz, _, hcell, hwz⟩
    · simp [Value.cells] at hcs
      obtain ⟨rfl, rfl, rfl⟩ := hcs
      exact ⟨[], .inl ⟨rfl, rfl, rfl, rfl⟩⟩
    · simp [Value.cells] at hcs
      obtain ⟨rfl, rfl, rfl⟩ := hcs
      exact ⟨zs, .inr ⟨_, rfl, hl, hm, by simpa using hz, hcell, hwz⟩⟩
  obtain ⟨a1, len1, cap1, rfl⟩ := okWide_slice Try.underlying28 (hval 1 28 v1 rfl rfl)
  have k1 := h1
  have lt1 : ∀ x ∈ p1, x.block < W.heap.size := by obtain ⟨m, hm⟩ := k1; exact DataW.trod_lt m _ _ _ hm
  obtain ⟨z1, w1⟩ : ∃ zs, IsRow .u64 W a1 len1 cap1 zs := by
    obtain ⟨fuel, hf⟩ := h1
    rcases open_ints Try.underlying28 Try.underlying34 (by kernel_rfl) hf with ⟨hcs, _⟩ | ⟨x, l, c, zs, hcs, _, hl, hm, hz, _, hcell, hwz⟩
    · simp [Value.cells] at hcs
      obtain ⟨rfl, rfl, rfl⟩ := hcs
      exact ⟨[], .inl ⟨rfl, rfl, rfl, rfl⟩⟩
    · simp [Value.cells] at hcs
      obtain ⟨rfl, rfl, rfl⟩ := hcs
      exact ⟨zs, .inr ⟨_, rfl, hl, hm, by simpa using hz, hcell, hwz⟩⟩
  clear hA0 hval0
  refine (walk a0 len0 cap0 z0 a1 len1 cap1 z1 W w0 w1).mono fun e W' ⟨he, bel⟩ => ?_
  subst he
  exact ⟨_, rfl, _, _, _, [], _, [], hW', trodAll_mk1 (shut_bool Try.underlying4 _), (trodAll_cons_mk (Below.trod laidOut (by kernel_rfl) (of_decide_eq_true (by kernel_rfl)) k0 bel lt0) (trodAll_cons_mk (Below.trod laidOut (by kernel_rfl) (of_decide_eq_true (by kernel_rfl)) k1 bel lt1) trodAll_mk0)), rfl, bel.frame _, fun h => by cases h⟩

theorem over : Rows.fnSlidingRecordKeepsCumulativeLogRow.holds Try.pinned (OpenSpec.ofChange Rows.fnSlidingRecordKeepsCumulativeLogSpec) :=
  OpenClaim.holds_of_wide 6 Try.f6 rfl rfl rfl rfl rfl rfl rfl ⟨rfl, rfl, rfl, rfl, rfl⟩ rfl rfl rfl rfl rfl (by kernel_rfl) Try.func6 (by kernel_rfl)
    (of_decide_eq_true (by kernel_rfl)) (by unfold Func.isWrapper; first | (rw [if_pos (by decide +kernel)]; kernel_rfl) | (rw [if_neg (by decide +kernel)]; exact ⟨rfl, rfl⟩))
    (fun os started H enc _ => lifted os started H enc)

/-- ████ THE STATEMENT ████ -/
theorem proved : Rows.FnSlidingRecordKeepsCumulativeLogSaid := over
end Go.Proofs.Qxb6000630a.fnSlidingRecordKeepsCumulativeLog
