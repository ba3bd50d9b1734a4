import Derived.Test.Qxb6600330aScr
import Derived.Test.Qxb6600330aStr3
namespace Go.Proofs.Qxb6600330a
open Go.RowKit
set_option linter.unusedVariables false

/-- The script in memory. -/
def ChSl (w : World) (so : Option Addr) (F : List Plain.Ch) : Prop := 0 < F.length → ∃ g, so = some ⟨g, 0, none⟩ ∧ ∀ k, k < F.length →
  w.cell? ⟨g, k * 4, none⟩ = some (.int .i64 (Plain.cAt F k).b) ∧ w.cell? ⟨g, k * 4 + 1, none⟩ = some (.int .i64 (Plain.cAt F k).r) ∧ w.cell? ⟨g, k * 4 + 2, none⟩ = some (.int .i64 (Plain.cAt F k).a) ∧ w.cell? ⟨g, k * 4 + 3, none⟩ = some (.int .i64 (Plain.cAt F k).d)

theorem Plain.total_take {F : List Plain.Ch} {k : Nat} (h : k < F.length) : Plain.total (F.take (k + 1)) = Plain.total (F.take k) + ((Plain.cAt F k).r + (Plain.cAt F k).d) := by
  rw [List.take_add_one, Plain.total_append]
  unfold Plain.cAt
  rw [List.getD_eq_getElem?_getD, List.getElem?_eq_getElem h]
  rfl
theorem Plain.total_bound {α : Type} {T U : Nat → α} {N M : Nat} {F : List Plain.Ch} (h : Plain.Ok T U N M F) : ∀ k, k ≤ F.length → Plain.total (F.take k) ≤ Plain.pI F k + Plain.pJ F k
  | 0, _ => by show 0 ≤ _; omega
  | k + 1, hk => by
    have h1 := Plain.total_bound h k (by omega)
    have h2 := h k (by omega)
    have b1 := h2.b
    have b2 := h2.a
    rw [Plain.total_take (by omega), Plain.pI_next, Plain.pJ_next]
    omega

set_option maxRecDepth 100000 in
set_option maxHeartbeats 4000000 in
theorem script_any (ao bo so : Option Addr) (N c M d cs : Nat) (T U : Nat → ByteArray) (F : List Plain.Ch) (w : World) (hN : N ≤ 4096) (hM : M ≤ 4096) (ha : StrSl w ao N T) (hb : StrSl w bo M U) (hs : ChSl w so F) (hF : F.length ≤ 8192)
    (hok : Plain.Ok T U N M F) (hend : Plain.EndOk T U N M F) :
    Calls Try.prog 32 #[.slice ao N c, .slice bo M d, .slice so F.length cs] w fun e w' => e = .returned (.tuple #[.bool true, .int .i64 (Plain.total F : Nat)]) ∧ Below w.heap.size w w' := by
  have HA : Hid (StrSl w ao N T ∧ StrSl w bo M U ∧ ChSl w so F ∧ Plain.Ok T U N M F ∧ Plain.EndOk T U N M F) := ⟨ha, hb, hs, hok, hend⟩
  clear ha hb hs hok hend
  have g0 : (N : Int) ≤ 4096 := by omega
  have g1 : (M : Int) ≤ 4096 := by omega
  go_enter Try.func32, Try.ntmps32
  go_wp2_with fail
  go_loopw [8, 9, 10, 11] (fun v8 v9 v10 v11 wr => ∃ k : Nat, k ≤ F.length ∧ v8 = .int .i64 (Plain.pI F k : Nat) ∧ v9 = .int .i64 (Plain.pJ F k : Nat) ∧ v10 = .int .i64 (Plain.total (F.take k) : Nat) ∧ v11 = .int .i64 (k : Int) ∧ Hid (Below w.heap.size w wr)) (fun _ _ _ v wr => F.length - (intOf v).toNat)
  case atStart => exact ⟨0, by omega, rfl, rfl, rfl, rfl, Below.refl _ _⟩
  case round =>
    obtain ⟨k, hk, rfl, rfl, rfl, rfl, hr⟩ := hrel
    have HT := Plain.total_bound HA.out.2.2.2.1 k hk
    have HP := Plain.pI_bound HA.out.2.2.2.1 hk
    obtain ⟨HP1, HP2⟩ := HP
    by_cases q : (k : Int) < (F.length : Int)
    · obtain ⟨g, rfl, hc⟩ := HA.out.2.2.1 (by omega)
      have st := HA.out.2.2.2.1 k (by omega)
      obtain ⟨k1, k2, k3, k4⟩ := hc k (by omega)
      have k1 := cell_later hr.out k1
      have k2 := cell_later hr.out k2
      have k3 := cell_later hr.out k3
      have k4 := cell_later hr.out k4
      clear hc
      have s1 := st.b
      have s2 := st.a
      have s3 := st.keep
      have s4 := st.apart
      have s5 := st.some
      have s6 := st.bN
      have s7 := st.aM
      have SS : Hid (∀ t, t < (Plain.cAt F k).b - Plain.pI F k → T (Plain.pI F k + t) = U (Plain.pJ F k + t)) := st.same
      have EN : Hid (Plain.pI F (k + 1) = (Plain.cAt F k).b + (Plain.cAt F k).r ∧ Plain.pJ F (k + 1) = (Plain.cAt F k).a + (Plain.cAt F k).d ∧ Plain.total (F.take (k + 1)) = Plain.total (F.take k) + ((Plain.cAt F k).r + (Plain.cAt F k).d)) := ⟨Plain.pI_next k, Plain.pJ_next k, Plain.total_take (by omega)⟩
      clear st
      generalize (Plain.cAt F k).b = b at *
      generalize (Plain.cAt F k).r = r at *
      generalize (Plain.cAt F k).a = a at *
      generalize (Plain.cAt F k).d = dd at *
      generalize Plain.pI F k = p at *
      generalize Plain.pJ F k = p' at *
      generalize Plain.total (F.take k) = tt at *
      have z1 : ¬ (r : Int) < 0 := by omega
      have z2 : ¬ (dd : Int) < 0 := by omega
      have z3 : ¬ (b : Int) < p := by omega
      have z4 : ¬ (a : Int) < p' := by omega
      have z5 : ¬ (N : Int) < b := by omega
      have z6 : ¬ (M : Int) < a := by omega
      have z7 : ¬ (N : Int) - b < r := by omega
      have z8 : ¬ (M : Int) - a < dd := by omega
      have z9 : ((b : Int) - p != (a : Int) - p') = false := by simp; omega
      have z0 : ((r : Int) == 0) = true ∧ ((dd : Int) == 0) = false ∨ ((r : Int) == 0) = false := by
        by_cases e : r = 0
        · exact .inl ⟨by simp [e], by simp; omega⟩
        · exact .inr (by simp [e])
      have zk : 0 < (k : Int) ∧ ((b : Int) - p == 0) = false ∨ ¬ 0 < (k : Int) := by
        by_cases e : 0 < k
        · exact .inl ⟨by omega, by have := s4 e; simp; omega⟩
        · exact .inr (by omega)
      clear s4 s5
      rcases z0 with ⟨y1, y2⟩ | y1
      · rcases zk with ⟨x1, x2⟩ | x1
        · go_wp2_with fail
          obtain ⟨bx, ebx⟩ : ∃ bx, bx = wr.heap.size := ⟨_, rfl⟩
          obtain ⟨w2, e2⟩ : ∃ w2, w2 = (wr.alloc (Obj.cells #[Value.int IntKind.i64 ↑b, Value.int IntKind.i64 ↑r, Value.int IntKind.i64 ↑a, Value.int IntKind.i64 ↑dd] 47)) := ⟨_, rfl⟩
          rw [← e2, ← ebx]
          have BX : Hid (Below w.heap.size w w2 ∧ w2.cell? ⟨bx, 0, none⟩ = some (.int .i64 b) ∧ w2.cell? ⟨bx, 1, none⟩ = some (.int .i64 r) ∧ w2.cell? ⟨bx, 2, none⟩ = some (.int .i64 a) ∧ w2.cell? ⟨bx, 3, none⟩ = some (.int .i64 dd)) := by
            rw [e2, ebx]
            exact ⟨hr.out.alloc hr.out.size _, by simp, by simp, by simp, by simp⟩
          clear e2 ebx hr k1 k2 k3 k4 z1 z2 z3 z4 z5 z6 z7 z8 z9
          go_loopw [14] (fun v wr => ∃ t : Nat, t ≤ b - p ∧ v = .int .i64 (t : Int) ∧ Hid (Below w.heap.size w wr ∧ wr.cell? ⟨bx, 0, none⟩ = some (.int .i64 b) ∧ wr.cell? ⟨bx, 1, none⟩ = some (.int .i64 r) ∧ wr.cell? ⟨bx, 2, none⟩ = some (.int .i64 a) ∧ wr.cell? ⟨bx, 3, none⟩ = some (.int .i64 dd))) (fun v wr => (b - p) - (intOf v).toNat)
          case atStart => exact ⟨0, by omega, rfl, BX.out⟩
          case round =>
            clear BX
            obtain ⟨t, ht, rfl, hq⟩ := hrel
            by_cases q2 : (t : Int) < (b : Int) - p
            · obtain ⟨ba, oa, rfl, ra⟩ := HA.out.1 (by omega)
              obtain ⟨bb, ob, rfl, rb⟩ := HA.out.2.1 (by omega)
              have c1 := cell_later hq.out.1 (ra (p + t) (by omega))
              have c2 := cell_later hq.out.1 (rb (p' + t) (by omega))
              rw [SS.out t (by omega)] at c1
              generalize U (p' + t) = s at c1 c2
              clear ra rb
              go_wp2_with fail
              go_quiet (fail)
              go_wp2
              go_roundw
              case rel =>
                obtain ⟨n1, n2, n3, n4, n5⟩ := hq.out
                exact ⟨t + 1, by omega, by go_num, below_drewN n1 _, n2, n3, n4, n5⟩
              case measure => simp [intOf]; omega
            · have n0 := hq.out.2.1
              have n1 := hq.out.2.2.1
              have n2 := hq.out.2.2.2.1
              have n3 := hq.out.2.2.2.2
              go_wp2
              go_roundw
              case rel =>
                exact ⟨k + 1, by omega, by rw [EN.out.1]; go_num, by rw [EN.out.2.1]; go_num, by rw [EN.out.2.2]; go_num, by go_num, hq.out.1⟩
              case measure => simp [intOf]; omega

        · go_wp2_with fail
          obtain ⟨bx, ebx⟩ : ∃ bx, bx = wr.heap.size := ⟨_, rfl⟩
          obtain ⟨w2, e2⟩ : ∃ w2, w2 = (wr.alloc (Obj.cells #[Value.int IntKind.i64 ↑b, Value.int IntKind.i64 ↑r, Value.int IntKind.i64 ↑a, Value.int IntKind.i64 ↑dd] 47)) := ⟨_, rfl⟩
          rw [← e2, ← ebx]
          have BX : Hid (Below w.heap.size w w2 ∧ w2.cell? ⟨bx, 0, none⟩ = some (.int .i64 b) ∧ w2.cell? ⟨bx, 1, none⟩ = some (.int .i64 r) ∧ w2.cell? ⟨bx, 2, none⟩ = some (.int .i64 a) ∧ w2.cell? ⟨bx, 3, none⟩ = some (.int .i64 dd)) := by
            rw [e2, ebx]
            exact ⟨hr.out.alloc hr.out.size _, by simp, by simp, by simp, by simp⟩
          clear e2 ebx hr k1 k2 k3 k4 z1 z2 z3 z4 z5 z6 z7 z8 z9
          go_loopw [14] (fun v wr => ∃ t : Nat, t ≤ b - p ∧ v = .int .i64 (t : Int) ∧ Hid (Below w.heap.size w wr ∧ wr.cell? ⟨bx, 0, none⟩ = some (.int .i64 b) ∧ wr.cell? ⟨bx, 1, none⟩ = some (.int .i64 r) ∧ wr.cell? ⟨bx, 2, none⟩ = some (.int .i64 a) ∧ wr.cell? ⟨bx, 3, none⟩ = some (.int .i64 dd))) (fun v wr => (b - p) - (intOf v).toNat)
          case atStart => exact ⟨0, by omega, rfl, BX.out⟩
          case round =>
            clear BX
            obtain ⟨t, ht, rfl, hq⟩ := hrel
            by_cases q2 : (t : Int) < (b : Int) - p
            · obtain ⟨ba, oa, rfl, ra⟩ := HA.out.1 (by omega)
              obtain ⟨bb, ob, rfl, rb⟩ := HA.out.2.1 (by omega)
              have c1 := cell_later hq.out.1 (ra (p + t) (by omega))
              have c2 := cell_later hq.out.1 (rb (p' + t) (by omega))
              rw [SS.out t (by omega)] at c1
              generalize U (p' + t) = s at c1 c2
              clear ra rb
              go_wp2_with fail
              go_quiet (fail)
              go_wp2
              go_roundw
              case rel =>
                obtain ⟨n1, n2, n3, n4, n5⟩ := hq.out
                exact ⟨t + 1, by omega, by go_num, below_drewN n1 _, n2, n3, n4, n5⟩
              case measure => simp [intOf]; omega
            · have n0 := hq.out.2.1
              have n1 := hq.out.2.2.1
              have n2 := hq.out.2.2.2.1
              have n3 := hq.out.2.2.2.2
              go_wp2
              go_roundw
              case rel =>
                exact ⟨k + 1, by omega, by rw [EN.out.1]; go_num, by rw [EN.out.2.1]; go_num, by rw [EN.out.2.2]; go_num, by go_num, hq.out.1⟩
              case measure => simp [intOf]; omega

      · rcases zk with ⟨x1, x2⟩ | x1
        · go_wp2_with fail
          obtain ⟨bx, ebx⟩ : ∃ bx, bx = wr.heap.size := ⟨_, rfl⟩
          obtain ⟨w2, e2⟩ : ∃ w2, w2 = (wr.alloc (Obj.cells #[Value.int IntKind.i64 ↑b, Value.int IntKind.i64 ↑r, Value.int IntKind.i64 ↑a, Value.int IntKind.i64 ↑dd] 47)) := ⟨_, rfl⟩
          rw [← e2, ← ebx]
          have BX : Hid (Below w.heap.size w w2 ∧ w2.cell? ⟨bx, 0, none⟩ = some (.int .i64 b) ∧ w2.cell? ⟨bx, 1, none⟩ = some (.int .i64 r) ∧ w2.cell? ⟨bx, 2, none⟩ = some (.int .i64 a) ∧ w2.cell? ⟨bx, 3, none⟩ = some (.int .i64 dd)) := by
            rw [e2, ebx]
            exact ⟨hr.out.alloc hr.out.size _, by simp, by simp, by simp, by simp⟩
          clear e2 ebx hr k1 k2 k3 k4 z1 z2 z3 z4 z5 z6 z7 z8 z9
          go_loopw [14] (fun v wr => ∃ t : Nat, t ≤ b - p ∧ v = .int .i64 (t : Int) ∧ Hid (Below w.heap.size w wr ∧ wr.cell? ⟨bx, 0, none⟩ = some (.int .i64 b) ∧ wr.cell? ⟨bx, 1, none⟩ = some (.int .i64 r) ∧ wr.cell? ⟨bx, 2, none⟩ = some (.int .i64 a) ∧ wr.cell? ⟨bx, 3, none⟩ = some (.int .i64 dd))) (fun v wr => (b - p) - (intOf v).toNat)
          case atStart => exact ⟨0, by omega, rfl, BX.out⟩
          case round =>
            clear BX
            obtain ⟨t, ht, rfl, hq⟩ := hrel
            by_cases q2 : (t : Int) < (b : Int) - p
            · obtain ⟨ba, oa, rfl, ra⟩ := HA.out.1 (by omega)
              obtain ⟨bb, ob, rfl, rb⟩ := HA.out.2.1 (by omega)
              have c1 := cell_later hq.out.1 (ra (p + t) (by omega))
              have c2 := cell_later hq.out.1 (rb (p' + t) (by omega))
              rw [SS.out t (by omega)] at c1
              generalize U (p' + t) = s at c1 c2
              clear ra rb
              go_wp2_with fail
              go_quiet (fail)
              go_wp2
              go_roundw
              case rel =>
                obtain ⟨n1, n2, n3, n4, n5⟩ := hq.out
                exact ⟨t + 1, by omega, by go_num, below_drewN n1 _, n2, n3, n4, n5⟩
              case measure => simp [intOf]; omega
            · have n0 := hq.out.2.1
              have n1 := hq.out.2.2.1
              have n2 := hq.out.2.2.2.1
              have n3 := hq.out.2.2.2.2
              go_wp2
              go_roundw
              case rel =>
                exact ⟨k + 1, by omega, by rw [EN.out.1]; go_num, by rw [EN.out.2.1]; go_num, by rw [EN.out.2.2]; go_num, by go_num, hq.out.1⟩
              case measure => simp [intOf]; omega

        · go_wp2_with fail
          obtain ⟨bx, ebx⟩ : ∃ bx, bx = wr.heap.size := ⟨_, rfl⟩
          obtain ⟨w2, e2⟩ : ∃ w2, w2 = (wr.alloc (Obj.cells #[Value.int IntKind.i64 ↑b, Value.int IntKind.i64 ↑r, Value.int IntKind.i64 ↑a, Value.int IntKind.i64 ↑dd] 47)) := ⟨_, rfl⟩
          rw [← e2, ← ebx]
          have BX : Hid (Below w.heap.size w w2 ∧ w2.cell? ⟨bx, 0, none⟩ = some (.int .i64 b) ∧ w2.cell? ⟨bx, 1, none⟩ = some (.int .i64 r) ∧ w2.cell? ⟨bx, 2, none⟩ = some (.int .i64 a) ∧ w2.cell? ⟨bx, 3, none⟩ = some (.int .i64 dd)) := by
            rw [e2, ebx]
            exact ⟨hr.out.alloc hr.out.size _, by simp, by simp, by simp, by simp⟩
          clear e2 ebx hr k1 k2 k3 k4 z1 z2 z3 z4 z5 z6 z7 z8 z9
          go_loopw [14] (fun v wr => ∃ t : Nat, t ≤ b - p ∧ v = .int .i64 (t : Int) ∧ Hid (Below w.heap.size w wr ∧ wr.cell? ⟨bx, 0, none⟩ = some (.int .i64 b) ∧ wr.cell? ⟨bx, 1, none⟩ = some (.int .i64 r) ∧ wr.cell? ⟨bx, 2, none⟩ = some (.int .i64 a) ∧ wr.cell? ⟨bx, 3, none⟩ = some (.int .i64 dd))) (fun v wr => (b - p) - (intOf v).toNat)
          case atStart => exact ⟨0, by omega, rfl, BX.out⟩
          case round =>
            clear BX
            obtain ⟨t, ht, rfl, hq⟩ := hrel
            by_cases q2 : (t : Int) < (b : Int) - p
            · obtain ⟨ba, oa, rfl, ra⟩ := HA.out.1 (by omega)
              obtain ⟨bb, ob, rfl, rb⟩ := HA.out.2.1 (by omega)
              have c1 := cell_later hq.out.1 (ra (p + t) (by omega))
              have c2 := cell_later hq.out.1 (rb (p' + t) (by omega))
              rw [SS.out t (by omega)] at c1
              generalize U (p' + t) = s at c1 c2
              clear ra rb
              go_wp2_with fail
              go_quiet (fail)
              go_wp2
              go_roundw
              case rel =>
                obtain ⟨n1, n2, n3, n4, n5⟩ := hq.out
                exact ⟨t + 1, by omega, by go_num, below_drewN n1 _, n2, n3, n4, n5⟩
              case measure => simp [intOf]; omega
            · have n0 := hq.out.2.1
              have n1 := hq.out.2.2.1
              have n2 := hq.out.2.2.2.1
              have n3 := hq.out.2.2.2.2
              go_wp2
              go_roundw
              case rel =>
                exact ⟨k + 1, by omega, by rw [EN.out.1]; go_num, by rw [EN.out.2.1]; go_num, by rw [EN.out.2.2]; go_num, by go_num, hq.out.1⟩
              case measure => simp [intOf]; omega

    · obtain rfl : k = F.length := by omega
      have EL := HA.out.2.2.2.2.len
      have ES : Hid (∀ t, Plain.pI F F.length + t < N → T (Plain.pI F F.length + t) = U (Plain.pJ F F.length + t)) := HA.out.2.2.2.2.same
      have ET : Hid (Plain.total (F.take F.length) = Plain.total F) := by rw [List.take_length]; exact rfl
      generalize Plain.pI F F.length = p at *
      generalize Plain.pJ F F.length = p' at *
      generalize Plain.total (F.take F.length) = tt at *
      have z9 : ((N : Int) - p != (M : Int) - p') = false := by simp; omega
      go_wp2_with fail
      have BX : Hid (Below w.heap.size w wr) := hr.out
      clear hr
      go_loopw [15] (fun v wr => ∃ t : Nat, p + t ≤ N ∧ v = .int .i64 (t : Int) ∧ Hid (Below w.heap.size w wr)) (fun v wr => (N - p) - (intOf v).toNat)
      case atStart => exact ⟨0, by omega, rfl, BX.out⟩
      case round =>
        clear BX
        obtain ⟨t, ht, rfl, hq⟩ := hrel
        by_cases q2 : (p : Int) + t < (N : Int)
        · obtain ⟨ba, oa, rfl, ra⟩ := HA.out.1 (by omega)
          obtain ⟨bb, ob, rfl, rb⟩ := HA.out.2.1 (by omega)
          have c1 := cell_later hq.out (ra (p + t) (by omega))
          have c2 := cell_later hq.out (rb (p' + t) (by omega))
          rw [ES.out t (by omega)] at c1
          generalize U (p' + t) = s at c1 c2
          clear ra rb
          go_wp2_with fail
          go_quiet (fail)
          go_wp2
          go_roundw
          case rel => exact ⟨t + 1, by omega, by go_num, below_drewN hq.out _⟩
          case measure => simp [intOf]; omega
        · go_wp2
          go_ret2
          rw [ET.out]
          exact ⟨rfl, hq.out⟩

end Go.Proofs.Qxb6600330a
