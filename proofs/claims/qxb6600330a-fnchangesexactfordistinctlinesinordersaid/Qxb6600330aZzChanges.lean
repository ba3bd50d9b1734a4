import Derived.Test.Qxb6600330aChanges
namespace Go.Proofs.Qxb6600330a
open Go.RowKit
set_option linter.unusedVariables false

set_option maxRecDepth 100000 in
set_option maxHeartbeats 1000000 in
/-- **ZZChanges** -/
theorem zzchanges_any (ao bo : Option Addr) (N c M d mc : Nat) (T U : Nat → ByteArray) (w : World) (hN : N ≤ 4096) (hM : M ≤ 4096) (hmc : 1 ≤ mc) (ha : StrSl w ao N T) (hb : StrSl w bo M U) (hsT : ∀ i, i < N → (T i).size ≤ maxLen) (hsU : ∀ i, i < M → (U i).size ≤ maxLen) :
    Calls Try.prog 28 #[.slice ao N c, .slice bo M d, .int .i64 mc] w (RetC w T U N M mc) := by
  have HC : Hid (Calls Try.prog 38 #[.slice ao N c, .slice bo M d, .int .i64 mc] w (RetC w T U N M mc)) := changes_any ao bo N c M d mc T U w hN hM hmc ha hb hsT hsU
  clear ha hb hsT hsU hN hM hmc
  go_enter Try.func28, Try.ntmps28
  go_wp2_with fail
  refine HC.out.mono ?_
  rintro e w1 ⟨so, F, cs, g, R, D, rfl, hch, hbl, inj, hcmp, hg, hrun⟩
  have HR : Hid (ChSl w1 so F ∧ Below w.heap.size w w1 ∧ Inj g T U N M ∧ Plain.Cmp (fun i => g (T i)) (fun j => g (U j)) (min mc ((N + M) / 2 + 1)) 0 N 0 M (fun _ => false) (fun _ => false) R D ∧ Plain.Gath (fun i => g (T i)) (fun j => g (U j)) R D N M N M F ∧ Plain.Run R D N M N M F) := ⟨hch, hbl, inj, hcmp, hg, hrun⟩
  clear hch hbl inj hcmp hg hrun HC
  go_wp2
  go_ret
  exact ⟨so, F, cs, g, R, D, rfl, HR.out⟩

theorem ok_lines {g : ByteArray → Int} {T U : Nat → ByteArray} {N M : Nat} {F : List Plain.Ch} (inj : Inj g T U N M) (h : Plain.Ok (fun i => g (T i)) (fun j => g (U j)) N M F) : Plain.Ok T U N M F := fun k hk => by
  have s := h k hk
  refine ⟨s.b, s.a, s.keep, s.apart, fun t ht => ?_, s.some, s.bN, s.aM⟩
  have h1 := s.bN
  have h2 := s.aM
  have h3 := s.keep
  have h4 := s.b
  have h5 := s.a
  exact inj _ _ (.inl ⟨_, by omega, rfl⟩) (.inr ⟨_, by omega, rfl⟩) (s.same t ht)
theorem end_lines {g : ByteArray → Int} {T U : Nat → ByteArray} {N M : Nat} {F : List Plain.Ch} (inj : Inj g T U N M) (h : Plain.Ok (fun i => g (T i)) (fun j => g (U j)) N M F) (he : Plain.EndOk (fun i => g (T i)) (fun j => g (U j)) N M F) : Plain.EndOk T U N M F := by
  refine ⟨he.len, fun t ht => ?_⟩
  have h1 := Plain.pI_bound h (Nat.le_refl F.length)
  have h2 := he.len
  exact inj _ _ (.inl ⟨_, ht, rfl⟩) (.inr ⟨_, by omega, rfl⟩) (he.same t ht)
/-- The script that changes hands back rebuilds the second text. -/
theorem RetC.script {T U : Nat → ByteArray} {N M : Nat} {F : List Plain.Ch} {g : ByteArray → Int} {R D : Nat → Bool} (inj : Inj g T U N M) (hg : Plain.Gath (fun i => g (T i)) (fun j => g (U j)) R D N M N M F) :
    Plain.Ok T U N M F ∧ Plain.EndOk T U N M F ∧ Plain.total F + 2 * (Plain.kept (fun i => g (T i)) R 0 N).length = N + M ∧ F.length ≤ N + M := by
  obtain ⟨h1, h2, h3⟩ := Plain.gath_end hg
  exact ⟨ok_lines inj h1, end_lines inj h1 h2, h3, Plain.len_bound h1⟩

/-- As a slice of strings comes in. -/
def IsStrs (w : World) (a : Option Addr) (len cap : Nat) (T : Nat → ByteArray) : Prop := AStr w a len cap T ∧ len ≤ 9223372036854775807 ∧ ∀ i, i < len → (T i).size ≤ maxLen
theorem isStrs_of_cells {w : World} {x : Addr} {len cap : Nat} {T : Nat → ByteArray} (hl : len ≤ maxLen) (hc : ∀ i, i < len → w.cell? (x.add i) = some (.string (T i)) ∧ (T i).size ≤ maxLen) : IsStrs w (some x) len cap T := by
  have sp : 0 < len → x.spot = none := by
    intro h0
    have := (hc 0 (by omega)).1
    unfold World.cell? at this
    by_cases e : x.spot = none
    · exact e
    · exfalso
      have e' : (x.add 0).spot.isSome = true := by
        show x.spot.isSome = true
        cases hx : x.spot with
        | none => exact absurd hx e
        | some _ => rfl
      rw [e'] at this
      simp at this
      split at this <;> simp at this
  refine ⟨.inr ⟨x, rfl, fun i hi => ?_, sp⟩, by unfold maxLen at hl; omega, fun i hi => (hc i hi).2⟩
  have := (hc i (by omega)).1
  obtain ⟨b, o, s⟩ := x
  obtain rfl : s = none := sp (by omega)
  rw [Addr.add_lit] at this
  exact this
end Go.Proofs.Qxb6600330a
