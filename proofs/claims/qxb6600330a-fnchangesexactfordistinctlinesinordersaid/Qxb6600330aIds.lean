import Derived.Test.Qxb6600330aStr3
import Derived.Maps.OwnSet
namespace Go.Proofs.Qxb6600330a
open Go.RowKit Go.Maps
set_option linter.unusedVariables false

theorem law9 : Keyed Try.prog 9 := string_keyed Try.underlying9
theorem zero3 (w : World) : (zeroValue 3).run Try.prog w = .ok (.int .i64 0) w := by kernel_rfl
/-- What a line reads as, as a key. -/
def kl (s : ByteArray) : Lit := .string s.data.toList
theorem kl_inj {s t : ByteArray} (h : kl s = kl t) : s = t := by
  unfold kl at h
  have h2 : s.data.toList = t.data.toList := by simpa using h
  cases s; cases t
  simp at h2
  rw [h2]
def i64 (n : Int) : DataW Unit := .lit (.int .i64 n)

/-- The numbers of lines: each line's own. -/
structure Ids (D : DataW Unit) (n : Nat) (g : ByteArray → Int) : Prop where
  tidy : Tidy D
  size : Maps.size D = n
  val : ∀ s, Maps.has D (kl s) = true → D.atKey (kl s) (i64 0) = i64 (g s) ∧ 0 ≤ g s ∧ g s < n
  inj : ∀ s t, Maps.has D (kl s) = true → Maps.has D (kl t) = true → g s = g t → s = t

theorem ids_start : Ids (.map []) 0 (fun _ => 0) := ⟨tidy_empty, rfl, fun s h => by simp [has_eq] at h, fun s t h => by simp [has_eq] at h⟩
def updG (g : ByteArray → Int) (s : ByteArray) (n : Int) : ByteArray → Int := fun t => by classical exact if t = s then n else g t
theorem updG_at (g : ByteArray → Int) (s : ByteArray) (n : Int) : updG g s n s = n := by unfold updG; exact if_pos rfl
theorem updG_ne {g : ByteArray → Int} {s t : ByteArray} {n : Int} (h : t ≠ s) : updG g s n t = g t := by unfold updG; exact if_neg h
theorem ids_put {D : DataW Unit} {n : Nat} {g : ByteArray → Int} {s : ByteArray} (h : Ids D n g) (hno : Maps.has D (kl s) = false) (hk : WideAt.IsKeyLit (kl s)) :
    Ids (D.put (kl s) (i64 n)) (n + 1) (updG g s n) := by
  have hM := h.tidy.isMap
  have ne : ∀ t, Maps.has D (kl t) = true → t ≠ s := fun t ht e => by rw [e, hno] at ht; cases ht
  have split : ∀ t, Maps.has (D.put (kl s) (i64 n)) (kl t) = true → t = s ∨ (t ≠ s ∧ Maps.has D (kl t) = true) := fun t ht => by
    by_cases e : t = s
    · exact .inl e
    · rw [has_put_other (fun q => e (kl_inj q))] at ht
      exact .inr ⟨e, ht⟩
  refine ⟨h.tidy.put hk _, by rw [size_put h.tidy, hno, h.size]; rfl, fun t ht => ?_, fun t u ht hu he => ?_⟩
  · rcases split t ht with e | ⟨e, ht'⟩
    · subst e
      rw [atKey_put_same hM hk, updG_at]
      exact ⟨rfl, by omega, by omega⟩
    · rw [atKey_put_other (fun q => e (kl_inj q)), updG_ne e]
      obtain ⟨h1, h2, h3⟩ := h.val t ht'
      exact ⟨h1, h2, by omega⟩
  · rcases split t ht with e | ⟨e, ht'⟩ <;> rcases split u hu with e' | ⟨e', hu'⟩
    · rw [e, e']
    · subst e
      rw [updG_at, updG_ne e'] at he
      have := (h.val u hu').2.2
      omega
    · subst e'
      rw [updG_at, updG_ne e] at he
      have := (h.val t ht').2.2
      omega
    · rw [updG_ne e, updG_ne e'] at he
      exact h.inj t u ht' hu' he

end Go.Proofs.Qxb6600330a
