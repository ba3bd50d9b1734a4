import Derived.Test.Qxb6600330aStr
namespace Go.Proofs.Qxb6600330a
open Go.RowKit
set_option linter.unusedVariables false

/-- Some bool comes back, and nothing is touched. -/
def RetQ (w : World) (e : Ending) (w' : World) : Prop := ∃ b : Bool, e = .returned (.bool b) ∧ w' = w

set_option maxRecDepth 100000 in
set_option maxHeartbeats 1000000 in
theorem bytes33 (ao bo : Option Addr) (l c m d : Nat) (T U : Nat → ByteArray) (mc : Int) (w : World) (hl : l ≤ 9223372036854775807) (hm : m ≤ 9223372036854775807) (ha : StrSl w ao l T) (hb : StrSl w bo m U) :
    Calls Try.prog 33 #[.slice ao l c, .slice bo m d, .int .i64 mc] w (RetQ w) := by
  have HA : Hid (StrSl w ao l T ∧ StrSl w bo m U) := ⟨ha, hb⟩
  clear ha hb
  by_cases q0 : (1048576 : Int) < l
  · go_enter Try.func33, Try.ntmps33
    go_wp2
    go_ret
    exact ⟨_, rfl, rfl⟩
  go_enter Try.func33, Try.ntmps33
  go_wp2_with fail
  go_loopw [7, 8] (fun v3 v4 wr => ∃ (i : Nat) (s : Int), i ≤ l ∧ 0 ≤ s ∧ s ≤ 1048576 ∧ v3 = .int .i64 s ∧ v4 = .int .i64 (i : Int) ∧ Hid (wr = w)) (fun _ v wr => l - (intOf v).toNat)
  case atStart => exact ⟨0, (l : Int), by omega, by omega, by omega, by first | rfl | go_num, rfl, rfl⟩
  case round =>
    obtain ⟨i, s, hi, h1, h2, rfl, rfl, hr⟩ := hrel
    have hww := hr.out.symm
    clear hr
    subst hww
    by_cases q : (i : Int) < (l : Int)
    · obtain ⟨b, o, rfl, r⟩ := HA.out.1 (by omega)
      have k1 := r i (by omega)
      clear r HA
      generalize T i = t at k1
      by_cases q1 : (1048576 : Int) < (t.size : Int)
      · go_wp2
        go_ret
        exact ⟨_, rfl, rfl⟩
      · by_cases q2 : (1048576 : Int) < s + (t.size : Int)
        · go_wp2
          go_ret
          exact ⟨_, rfl, rfl⟩
        · go_wp2
          go_roundw
          case rel => exact ⟨i + 1, s + t.size, by omega, by omega, by omega, by go_num, by go_num, (by first | rfl | trivial)⟩
          case measure => simp [intOf]; omega
    · by_cases q5 : (1048576 : Int) < m
      · go_wp2
        go_ret
        exact ⟨_, rfl, rfl⟩
      by_cases q6 : (1048576 : Int) < s + m
      · go_wp2
        go_ret
        exact ⟨_, rfl, rfl⟩
      go_wp2_with fail
      go_loopw [7, 9] (fun v3 v4 wr => ∃ (i : Nat) (s : Int), i ≤ m ∧ 0 ≤ s ∧ s ≤ 1048576 ∧ v3 = .int .i64 s ∧ v4 = .int .i64 (i : Int) ∧ Hid (wr = w)) (fun _ v wr => m - (intOf v).toNat)
      case atStart => exact ⟨0, s + m, by omega, by omega, by omega, by first | rfl | go_num, rfl, rfl⟩
      case round =>
        obtain ⟨i, s, hi, h1, h2, rfl, rfl, hr⟩ := hrel
        have hww := hr.out.symm
        clear hr
        subst hww
        by_cases q : (i : Int) < (m : Int)
        · obtain ⟨b, o, rfl, r⟩ := HA.out.2 (by omega)
          have k1 := r i (by omega)
          clear r HA
          generalize U i = t at k1
          by_cases q1 : (1048576 : Int) < (t.size : Int)
          · go_wp2
            go_ret
            exact ⟨_, rfl, rfl⟩
          · by_cases q2 : (1048576 : Int) < s + (t.size : Int)
            · go_wp2
              go_ret
              exact ⟨_, rfl, rfl⟩
            · go_wp2
              go_roundw
              case rel => exact ⟨i + 1, s + t.size, by omega, by omega, by omega, by go_num, by go_num, (by first | rfl | trivial)⟩
              case measure => simp [intOf]; omega
        · go_wp2
          go_ret
          exact ⟨_, rfl, rfl⟩

set_option maxRecDepth 100000 in
set_option maxHeartbeats 1000000 in
theorem bytes24 (ao bo : Option Addr) (l c m d : Nat) (T U : Nat → ByteArray) (mc : Int) (w : World) (hl : l ≤ 9223372036854775807) (hm : m ≤ 9223372036854775807) (ha : StrSl w ao l T) (hb : StrSl w bo m U) :
    Calls Try.prog 24 #[.slice ao l c, .slice bo m d, .int .i64 mc] w (RetQ w) := by
  have HA : Hid (StrSl w ao l T ∧ StrSl w bo m U) := ⟨ha, hb⟩
  clear ha hb
  by_cases q0 : (1048576 : Int) < l
  · go_enter Try.func24, Try.ntmps24
    go_wp2
    go_ret
    exact ⟨_, rfl, rfl⟩
  go_enter Try.func24, Try.ntmps24
  go_wp2_with fail
  go_loopw [7, 8] (fun v3 v4 wr => ∃ (i : Nat) (s : Int), i ≤ l ∧ 0 ≤ s ∧ s ≤ 1048576 ∧ v3 = .int .i64 s ∧ v4 = .int .i64 (i : Int) ∧ Hid (wr = w)) (fun _ v wr => l - (intOf v).toNat)
  case atStart => exact ⟨0, (l : Int), by omega, by omega, by omega, by first | rfl | go_num, rfl, rfl⟩
  case round =>
    obtain ⟨i, s, hi, h1, h2, rfl, rfl, hr⟩ := hrel
    have hww := hr.out.symm
    clear hr
    subst hww
    by_cases q : (i : Int) < (l : Int)
    · obtain ⟨b, o, rfl, r⟩ := HA.out.1 (by omega)
      have k1 := r i (by omega)
      clear r HA
      generalize T i = t at k1
      by_cases q1 : (1048576 : Int) < (t.size : Int)
      · go_wp2
        go_ret
        exact ⟨_, rfl, rfl⟩
      · by_cases q2 : (1048576 : Int) < s + (t.size : Int)
        · go_wp2
          go_ret
          exact ⟨_, rfl, rfl⟩
        · go_wp2
          go_roundw
          case rel => exact ⟨i + 1, s + t.size, by omega, by omega, by omega, by go_num, by go_num, (by first | rfl | trivial)⟩
          case measure => simp [intOf]; omega
    · by_cases q5 : (1048576 : Int) < m
      · go_wp2
        go_ret
        exact ⟨_, rfl, rfl⟩
      by_cases q6 : (1048576 : Int) < s + m
      · go_wp2
        go_ret
        exact ⟨_, rfl, rfl⟩
      go_wp2_with fail
      go_loopw [7, 9] (fun v3 v4 wr => ∃ (i : Nat) (s : Int), i ≤ m ∧ 0 ≤ s ∧ s ≤ 1048576 ∧ v3 = .int .i64 s ∧ v4 = .int .i64 (i : Int) ∧ Hid (wr = w)) (fun _ v wr => m - (intOf v).toNat)
      case atStart => exact ⟨0, s + m, by omega, by omega, by omega, by first | rfl | go_num, rfl, rfl⟩
      case round =>
        obtain ⟨i, s, hi, h1, h2, rfl, rfl, hr⟩ := hrel
        have hww := hr.out.symm
        clear hr
        subst hww
        by_cases q : (i : Int) < (m : Int)
        · obtain ⟨b, o, rfl, r⟩ := HA.out.2 (by omega)
          have k1 := r i (by omega)
          clear r HA
          generalize U i = t at k1
          by_cases q1 : (1048576 : Int) < (t.size : Int)
          · go_wp2
            go_ret
            exact ⟨_, rfl, rfl⟩
          · by_cases q2 : (1048576 : Int) < s + (t.size : Int)
            · go_wp2
              go_ret
              exact ⟨_, rfl, rfl⟩
            · go_wp2
              go_roundw
              case rel => exact ⟨i + 1, s + t.size, by omega, by omega, by omega, by go_num, by go_num, (by first | rfl | trivial)⟩
              case measure => simp [intOf]; omega
        · go_wp2
          go_ret
          exact ⟨_, rfl, rfl⟩

set_option maxRecDepth 100000 in
set_option maxHeartbeats 1000000 in
theorem bytes30 (ao bo : Option Addr) (l c m d : Nat) (T U : Nat → ByteArray) (mc : Int) (w : World) (hl : l ≤ 9223372036854775807) (hm : m ≤ 9223372036854775807) (ha : StrSl w ao l T) (hb : StrSl w bo m U) :
    Calls Try.prog 30 #[.slice ao l c, .slice bo m d, .int .i64 mc] w (RetQ w) := by
  have HA : Hid (StrSl w ao l T ∧ StrSl w bo m U) := ⟨ha, hb⟩
  clear ha hb
  by_cases q0 : (1048576 : Int) < l
  · go_enter Try.func30, Try.ntmps30
    go_wp2
    go_ret
    exact ⟨_, rfl, rfl⟩
  go_enter Try.func30, Try.ntmps30
  go_wp2_with fail
  go_loopw [7, 8] (fun v3 v4 wr => ∃ (i : Nat) (s : Int), i ≤ l ∧ 0 ≤ s ∧ s ≤ 1048576 ∧ v3 = .int .i64 s ∧ v4 = .int .i64 (i : Int) ∧ Hid (wr = w)) (fun _ v wr => l - (intOf v).toNat)
  case atStart => exact ⟨0, (l : Int), by omega, by omega, by omega, by first | rfl | go_num, rfl, rfl⟩
  case round =>
    obtain ⟨i, s, hi, h1, h2, rfl, rfl, hr⟩ := hrel
    have hww := hr.out.symm
    clear hr
    subst hww
    by_cases q : (i : Int) < (l : Int)
    · obtain ⟨b, o, rfl, r⟩ := HA.out.1 (by omega)
      have k1 := r i (by omega)
      clear r HA
      generalize T i = t at k1
      by_cases q1 : (1048576 : Int) < (t.size : Int)
      · go_wp2
        go_ret
        exact ⟨_, rfl, rfl⟩
      · by_cases q2 : (1048576 : Int) < s + (t.size : Int)
        · go_wp2
          go_ret
          exact ⟨_, rfl, rfl⟩
        · go_wp2
          go_roundw
          case rel => exact ⟨i + 1, s + t.size, by omega, by omega, by omega, by go_num, by go_num, (by first | rfl | trivial)⟩
          case measure => simp [intOf]; omega
    · by_cases q5 : (1048576 : Int) < m
      · go_wp2
        go_ret
        exact ⟨_, rfl, rfl⟩
      by_cases q6 : (1048576 : Int) < s + m
      · go_wp2
        go_ret
        exact ⟨_, rfl, rfl⟩
      go_wp2_with fail
      go_loopw [7, 9] (fun v3 v4 wr => ∃ (i : Nat) (s : Int), i ≤ m ∧ 0 ≤ s ∧ s ≤ 1048576 ∧ v3 = .int .i64 s ∧ v4 = .int .i64 (i : Int) ∧ Hid (wr = w)) (fun _ v wr => m - (intOf v).toNat)
      case atStart => exact ⟨0, s + m, by omega, by omega, by omega, by first | rfl | go_num, rfl, rfl⟩
      case round =>
        obtain ⟨i, s, hi, h1, h2, rfl, rfl, hr⟩ := hrel
        have hww := hr.out.symm
        clear hr
        subst hww
        by_cases q : (i : Int) < (m : Int)
        · obtain ⟨b, o, rfl, r⟩ := HA.out.2 (by omega)
          have k1 := r i (by omega)
          clear r HA
          generalize U i = t at k1
          by_cases q1 : (1048576 : Int) < (t.size : Int)
          · go_wp2
            go_ret
            exact ⟨_, rfl, rfl⟩
          · by_cases q2 : (1048576 : Int) < s + (t.size : Int)
            · go_wp2
              go_ret
              exact ⟨_, rfl, rfl⟩
            · go_wp2
              go_roundw
              case rel => exact ⟨i + 1, s + t.size, by omega, by omega, by omega, by go_num, by go_num, (by first | rfl | trivial)⟩
              case measure => simp [intOf]; omega
        · go_wp2
          go_ret
          exact ⟨_, rfl, rfl⟩

end Go.Proofs.Qxb6600330a
