import Derived.Test.Qxb6600330aFrame
import Derived.Test.Qxb6600330aCmp
import Derived.WalkSmall
namespace Go.Proofs.Qxb6600330a
open Go.RowKit
set_option linter.unusedVariables false

/-- ALL THAT compare KNOWS OF MEMORY: the differ, its two lists, its marks, its tables. -/
structure CW (w : World) (bd : Nat) (ao bo : Option Addr) (br bad bf bk N M mc : Nat) (A B : Nat → Int) (R D : Nat → Bool) : Prop where
  d : DW w bd (.slice ao N N) (.slice bo M M) (.slice (some ⟨br, 0, none⟩) N N) (.slice (some ⟨bad, 0, none⟩) M M) bf bk mc
  t : ∃ F G, TW w bf bk mc F G
  r : w.rowIs br 4 N (fun i => .bool (R i))
  e : w.rowIs bad 4 M (fun j => .bool (D j))
  a : 0 < N → ∃ ba, ao = some ⟨ba, 0, none⟩ ∧ IntRow w ba 0 N A ∧ ba ≠ br ∧ ba ≠ bad ∧ ba ≠ bf ∧ ba ≠ bk
  b : 0 < M → ∃ bb, bo = some ⟨bb, 0, none⟩ ∧ IntRow w bb 0 M B ∧ bb ≠ br ∧ bb ≠ bad ∧ bb ≠ bf ∧ bb ≠ bk
  ne : bd ≠ br ∧ bd ≠ bad ∧ bd ≠ bf ∧ bd ≠ bk ∧ br ≠ bad ∧ br ≠ bf ∧ br ≠ bk ∧ bad ≠ bf ∧ bad ≠ bk

/-- The marks and the tables. -/
def XC (br bad bf bk : Nat) : Nat → Prop := fun k => k = br ∨ k = bad ∨ k = bf ∨ k = bk

def updB (R : Nat → Bool) (i : Nat) : Nat → Bool := fun j => if j = i then true else R j
theorem row_updB {w : World} {b n : Nat} {R : Nat → Bool} (h : w.rowIs b 4 n (fun i => .bool (R i))) (i : Nat) : (w.setCell ⟨b, i, none⟩ (.bool true)).rowIs b 4 n (fun j => .bool (updB R i j)) :=
  (h.set i (.bool true)).congr fun j hj => by
    show (if j = i then Value.bool true else .bool (R j)) = .bool (updB R i j)
    unfold updB
    by_cases e : j = i
    · rw [if_pos e, if_pos e]
    · rw [if_neg e, if_neg e]
section
variable {w w' : World} {bd br bad bf bk N M mc : Nat} {ao bo : Option Addr} {A B : Nat → Int} {R D : Nat → Bool}
theorem CW.below (h : CW w bd ao bo br bad bf bk N M mc A B R D) (hb : Below w.heap.size w w') : CW w' bd ao bo br bad bf bk N M mc A B R D := by
  have k := kept_below hb
  obtain ⟨F, G, ht⟩ := h.t
  refine ⟨h.d.kept k id, ⟨F, G, ht.kept k id id⟩, k.row h.r id, k.row h.e id, fun h0 => ?_, fun h0 => ?_, h.ne⟩
  · obtain ⟨ba, e, r, n⟩ := h.a h0
    exact ⟨ba, e, r.kept k id, n⟩
  · obtain ⟨bb, e, r, n⟩ := h.b h0
    exact ⟨bb, e, r.kept k id, n⟩
theorem CW.tables {F G : Nat → Int} (h : CW w bd ao bo br bad bf bk N M mc A B R D) (k : Kept (fun k => k = bf ∨ k = bk) w w') (ht : TW w' bf bk mc F G) : CW w' bd ao bo br bad bf bk N M mc A B R D := by
  have hne := h.ne
  refine ⟨h.d.kept k (by omega), ⟨F, G, ht⟩, k.row h.r (by omega), k.row h.e (by omega), fun h0 => ?_, fun h0 => ?_, h.ne⟩
  · obtain ⟨ba, e, r, n⟩ := h.a h0
    exact ⟨ba, e, r.kept k (by omega), n⟩
  · obtain ⟨bb, e, r, n⟩ := h.b h0
    exact ⟨bb, e, r.kept k (by omega), n⟩
theorem CW.setR (h : CW w bd ao bo br bad bf bk N M mc A B R D) (i : Nat) : CW (w.setCell ⟨br, i, none⟩ (.bool true)) bd ao bo br bad bf bk N M mc A B (updB R i) D := by
  have hne := h.ne
  have k : Kept (fun k => k = br) w (w.setCell ⟨br, i, none⟩ (.bool true)) := Kept.setCell _ rfl
  obtain ⟨F, G, ht⟩ := h.t
  refine ⟨h.d.kept k (by omega), ⟨F, G, ht.kept k (by omega) (by omega)⟩, row_updB h.r i, k.row h.e (by omega), fun h0 => ?_, fun h0 => ?_, h.ne⟩
  · obtain ⟨ba, e, r, n⟩ := h.a h0
    exact ⟨ba, e, r.kept k (by omega), n⟩
  · obtain ⟨bb, e, r, n⟩ := h.b h0
    exact ⟨bb, e, r.kept k (by omega), n⟩
theorem CW.setD (h : CW w bd ao bo br bad bf bk N M mc A B R D) (i : Nat) : CW (w.setCell ⟨bad, i, none⟩ (.bool true)) bd ao bo br bad bf bk N M mc A B R (updB D i) := by
  have hne := h.ne
  have k : Kept (fun k => k = bad) w (w.setCell ⟨bad, i, none⟩ (.bool true)) := Kept.setCell _ rfl
  obtain ⟨F, G, ht⟩ := h.t
  refine ⟨h.d.kept k (by omega), ⟨F, G, ht.kept k (by omega) (by omega)⟩, k.row h.r (by omega), row_updB h.e i, fun h0 => ?_, fun h0 => ?_, h.ne⟩
  · obtain ⟨ba, e, r, n⟩ := h.a h0
    exact ⟨ba, e, r.kept k (by omega), n⟩
  · obtain ⟨bb, e, r, n⟩ := h.b h0
    exact ⟨bb, e, r.kept k (by omega), n⟩
end

set_option maxRecDepth 100000 in
theorem lit121 {p : Act → Prop} (H : ∀ u0 u1 u2 u3 u4 u5 u6 u7 u8 u9 u10 u11 u12 u13 u14 u15 u16 u17 u18 u19 u20 u21 u22 u23 u24 u25 u26 u27 u28 u29 u30 u31 u32 u33 u34 u35 u36 u37 u38 u39 u40 u41 u42 u43 u44 u45 u46 u47 u48 u49 u50 u51 u52 u53 u54 u55 u56 u57 u58 u59 u60 u61 u62 u63 u64 u65 u66 u67 u68 u69 u70 u71 u72 u73 u74 u75 u76 u77 u78 u79 u80 u81 u82 u83 u84 u85 u86 u87 u88 u89 u90 u91 u92 u93 u94 u95 u96 u97 u98 u99 u100 u101 u102 u103 u104 u105 u106 u107 u108 u109 u110 u111 u112 u113 u114 u115 u116 u117 u118 u119 u120 : Value, p ⟨List.toArray (u0 :: u1 :: u2 :: u3 :: u4 :: u5 :: u6 :: u7 :: u8 :: u9 :: u10 :: u11 :: u12 :: u13 :: u14 :: u15 :: u16 :: u17 :: u18 :: u19 :: u20 :: u21 :: u22 :: u23 :: u24 :: u25 :: u26 :: u27 :: u28 :: u29 :: u30 :: u31 :: u32 :: u33 :: u34 :: u35 :: u36 :: u37 :: u38 :: u39 :: u40 :: u41 :: u42 :: u43 :: u44 :: u45 :: u46 :: u47 :: u48 :: u49 :: u50 :: u51 :: u52 :: u53 :: u54 :: u55 :: u56 :: u57 :: u58 :: u59 :: u60 :: u61 :: u62 :: u63 :: u64 :: u65 :: u66 :: u67 :: u68 :: u69 :: u70 :: u71 :: u72 :: u73 :: u74 :: u75 :: u76 :: u77 :: u78 :: u79 :: u80 :: u81 :: u82 :: u83 :: u84 :: u85 :: u86 :: u87 :: u88 :: u89 :: u90 :: u91 :: u92 :: u93 :: u94 :: u95 :: u96 :: u97 :: u98 :: u99 :: u100 :: u101 :: u102 :: u103 :: u104 :: u105 :: u106 :: u107 :: u108 :: u109 :: u110 :: u111 :: u112 :: u113 :: u114 :: u115 :: u116 :: u117 :: u118 :: u119 :: u120 :: []), []⟩) (a : Act) (hs : a.tmps.size = 121) (hd : a.defers = []) : p a := by
  obtain ⟨t, d⟩ := a
  simp only at hs hd
  subst hd
  have h := H (t.getD 0 undef) (t.getD 1 undef) (t.getD 2 undef) (t.getD 3 undef) (t.getD 4 undef) (t.getD 5 undef) (t.getD 6 undef) (t.getD 7 undef) (t.getD 8 undef) (t.getD 9 undef) (t.getD 10 undef) (t.getD 11 undef) (t.getD 12 undef) (t.getD 13 undef) (t.getD 14 undef) (t.getD 15 undef) (t.getD 16 undef) (t.getD 17 undef) (t.getD 18 undef) (t.getD 19 undef) (t.getD 20 undef) (t.getD 21 undef) (t.getD 22 undef) (t.getD 23 undef) (t.getD 24 undef) (t.getD 25 undef) (t.getD 26 undef) (t.getD 27 undef) (t.getD 28 undef) (t.getD 29 undef) (t.getD 30 undef) (t.getD 31 undef) (t.getD 32 undef) (t.getD 33 undef) (t.getD 34 undef) (t.getD 35 undef) (t.getD 36 undef) (t.getD 37 undef) (t.getD 38 undef) (t.getD 39 undef) (t.getD 40 undef) (t.getD 41 undef) (t.getD 42 undef) (t.getD 43 undef) (t.getD 44 undef) (t.getD 45 undef) (t.getD 46 undef) (t.getD 47 undef) (t.getD 48 undef) (t.getD 49 undef) (t.getD 50 undef) (t.getD 51 undef) (t.getD 52 undef) (t.getD 53 undef) (t.getD 54 undef) (t.getD 55 undef) (t.getD 56 undef) (t.getD 57 undef) (t.getD 58 undef) (t.getD 59 undef) (t.getD 60 undef) (t.getD 61 undef) (t.getD 62 undef) (t.getD 63 undef) (t.getD 64 undef) (t.getD 65 undef) (t.getD 66 undef) (t.getD 67 undef) (t.getD 68 undef) (t.getD 69 undef) (t.getD 70 undef) (t.getD 71 undef) (t.getD 72 undef) (t.getD 73 undef) (t.getD 74 undef) (t.getD 75 undef) (t.getD 76 undef) (t.getD 77 undef) (t.getD 78 undef) (t.getD 79 undef) (t.getD 80 undef) (t.getD 81 undef) (t.getD 82 undef) (t.getD 83 undef) (t.getD 84 undef) (t.getD 85 undef) (t.getD 86 undef) (t.getD 87 undef) (t.getD 88 undef) (t.getD 89 undef) (t.getD 90 undef) (t.getD 91 undef) (t.getD 92 undef) (t.getD 93 undef) (t.getD 94 undef) (t.getD 95 undef) (t.getD 96 undef) (t.getD 97 undef) (t.getD 98 undef) (t.getD 99 undef) (t.getD 100 undef) (t.getD 101 undef) (t.getD 102 undef) (t.getD 103 undef) (t.getD 104 undef) (t.getD 105 undef) (t.getD 106 undef) (t.getD 107 undef) (t.getD 108 undef) (t.getD 109 undef) (t.getD 110 undef) (t.getD 111 undef) (t.getD 112 undef) (t.getD 113 undef) (t.getD 114 undef) (t.getD 115 undef) (t.getD 116 undef) (t.getD 117 undef) (t.getD 118 undef) (t.getD 119 undef) (t.getD 120 undef)
  have e : (List.map (fun i => t.getD i undef) (List.range 121)).toArray = t := tmps_lit t 121 hs
  have e2 : (List.map (fun i => t.getD i undef) (List.range 121)).toArray = List.toArray ((t.getD 0 undef) :: (t.getD 1 undef) :: (t.getD 2 undef) :: (t.getD 3 undef) :: (t.getD 4 undef) :: (t.getD 5 undef) :: (t.getD 6 undef) :: (t.getD 7 undef) :: (t.getD 8 undef) :: (t.getD 9 undef) :: (t.getD 10 undef) :: (t.getD 11 undef) :: (t.getD 12 undef) :: (t.getD 13 undef) :: (t.getD 14 undef) :: (t.getD 15 undef) :: (t.getD 16 undef) :: (t.getD 17 undef) :: (t.getD 18 undef) :: (t.getD 19 undef) :: (t.getD 20 undef) :: (t.getD 21 undef) :: (t.getD 22 undef) :: (t.getD 23 undef) :: (t.getD 24 undef) :: (t.getD 25 undef) :: (t.getD 26 undef) :: (t.getD 27 undef) :: (t.getD 28 undef) :: (t.getD 29 undef) :: (t.getD 30 undef) :: (t.getD 31 undef) :: (t.getD 32 undef) :: (t.getD 33 undef) :: (t.getD 34 undef) :: (t.getD 35 undef) :: (t.getD 36 undef) :: (t.getD 37 undef) :: (t.getD 38 undef) :: (t.getD 39 undef) :: (t.getD 40 undef) :: (t.getD 41 undef) :: (t.getD 42 undef) :: (t.getD 43 undef) :: (t.getD 44 undef) :: (t.getD 45 undef) :: (t.getD 46 undef) :: (t.getD 47 undef) :: (t.getD 48 undef) :: (t.getD 49 undef) :: (t.getD 50 undef) :: (t.getD 51 undef) :: (t.getD 52 undef) :: (t.getD 53 undef) :: (t.getD 54 undef) :: (t.getD 55 undef) :: (t.getD 56 undef) :: (t.getD 57 undef) :: (t.getD 58 undef) :: (t.getD 59 undef) :: (t.getD 60 undef) :: (t.getD 61 undef) :: (t.getD 62 undef) :: (t.getD 63 undef) :: (t.getD 64 undef) :: (t.getD 65 undef) :: (t.getD 66 undef) :: (t.getD 67 undef) :: (t.getD 68 undef) :: (t.getD 69 undef) :: (t.getD 70 undef) :: (t.getD 71 undef) :: (t.getD 72 undef) :: (t.getD 73 undef) :: (t.getD 74 undef) :: (t.getD 75 undef) :: (t.getD 76 undef) :: (t.getD 77 undef) :: (t.getD 78 undef) :: (t.getD 79 undef) :: (t.getD 80 undef) :: (t.getD 81 undef) :: (t.getD 82 undef) :: (t.getD 83 undef) :: (t.getD 84 undef) :: (t.getD 85 undef) :: (t.getD 86 undef) :: (t.getD 87 undef) :: (t.getD 88 undef) :: (t.getD 89 undef) :: (t.getD 90 undef) :: (t.getD 91 undef) :: (t.getD 92 undef) :: (t.getD 93 undef) :: (t.getD 94 undef) :: (t.getD 95 undef) :: (t.getD 96 undef) :: (t.getD 97 undef) :: (t.getD 98 undef) :: (t.getD 99 undef) :: (t.getD 100 undef) :: (t.getD 101 undef) :: (t.getD 102 undef) :: (t.getD 103 undef) :: (t.getD 104 undef) :: (t.getD 105 undef) :: (t.getD 106 undef) :: (t.getD 107 undef) :: (t.getD 108 undef) :: (t.getD 109 undef) :: (t.getD 110 undef) :: (t.getD 111 undef) :: (t.getD 112 undef) :: (t.getD 113 undef) :: (t.getD 114 undef) :: (t.getD 115 undef) :: (t.getD 116 undef) :: (t.getD 117 undef) :: (t.getD 118 undef) :: (t.getD 119 undef) :: (t.getD 120 undef) :: []) := by kernel_rfl
  rw [← e2, e] at h
  exact h

/-- compare's frame. -/
structure C35 (a : Act) (bd alo ahi blo bhi : Nat) : Prop where
  sz : a.tmps.size = 121
  df : a.defers = []
  t0 : a.tmps.getD 0 undef = .pointer (some ⟨bd, 0, none⟩)
  t1 : a.tmps.getD 1 undef = .int .i64 alo
  t2 : a.tmps.getD 2 undef = .int .i64 ahi
  t3 : a.tmps.getD 3 undef = .int .i64 blo
  t4 : a.tmps.getD 4 undef = .int .i64 bhi
structure C35X (a : Act) (bd alo ahi blo bhi x y : Nat) : Prop extends C35 a bd alo ahi blo bhi where
  t12 : a.tmps.getD 12 undef = .int .i64 x
  t13 : a.tmps.getD 13 undef = .int .i64 y
section
variable {Q : Exit → Act → World → Prop} {a : Act} {w : World} {bd br bad bf bk N M mc alo ahi blo bhi : Nat} {ao bo : Option Addr} {A B : Nat → Int} {R D : Nat → Bool}
set_option maxRecDepth 100000 in
set_option maxHeartbeats 1000000 in
/-- the lines at the front that are the same -/
theorem c2 (hf : C35 a bd alo ahi blo bhi) (hw : CW w bd ao bo br bad bf bk N M mc A B R D) (hN : N ≤ 4096) (hM : M ≤ 4096) (ha : alo ≤ ahi) (ha' : ahi ≤ N) (hb : blo ≤ bhi) (hb' : bhi ≤ M)
    (hQ : ∀ a' w' t, C35 a' bd (alo + t) ahi (blo + t) bhi → Below w.heap.size w w' → (∀ u, u < t → A (alo + u) = B (blo + u)) → alo + t ≤ ahi → blo + t ≤ bhi → ¬ (alo + t < ahi ∧ blo + t < bhi ∧ A (alo + t) = B (blo + t)) → Q .normal a' w') :
    Code.wp Try.prog (nav [0, 0, 0, 0] (Try.f35.body.getD .skip)) Q a w := by
  have HW : Hid (CW w bd ao bo br bad bf bk N M mc A B R D) := hw
  clear hw
  refine lit121 (p := fun a => C35 a bd alo ahi blo bhi → Code.wp Try.prog (nav [0, 0, 0, 0] (Try.f35.body.getD .skip)) Q a w) ?_ a hf.sz hf.df hf
  clear hf
  intro u0 u1 u2 u3 u4 _ _ _ _ _ _ _ _ _ _ _ _ _ _ _ _ _ _ _ _ _ _ _ _ _ _ _ _ _ _ _ _ _ _ _ _ _ _ _ _ _ _ _ _ _ _ _ _ _ _ _ _ _ _ _ _ _ _ _ _ _ _ _ _ _ _ _ _ _ _ _ _ _ _ _ _ _ _ _ _ _ _ _ _ _ _ _ _ _ _ _ _ _ _ _ _ _ _ _ _ _ _ _ _ _ _ _ _ _ _ _ _ _ _ _ _ hf
  have e0 := hf.t0
  have e1 := hf.t1
  have e2 := hf.t2
  have e3 := hf.t3
  have e4 := hf.t4
  clear hf
  change u0 = _ at e0; change u1 = _ at e1; change u2 = _ at e2; change u3 = _ at e3; change u4 = _ at e4
  subst e0 e1 e2 e3 e4
  conv => arg 2; whnf
  go_wp2_with fail
  go_loopw [1, 3] (fun v1 v3 wr => ∃ t : Nat, alo + t ≤ ahi ∧ blo + t ≤ bhi ∧ v1 = .int .i64 ((alo : Int) + t) ∧ v3 = .int .i64 ((blo : Int) + t) ∧ Hid ((∀ u, u < t → A (alo + u) = B (blo + u)) ∧ Below w.heap.size w wr)) (fun v1 v3 wr => ahi - (intOf v1).toNat)
  case atStart => exact ⟨0, by omega, by omega, by simp, by simp, fun u hu => absurd hu (by omega), Below.refl _ _⟩
  case round =>
    obtain ⟨t, ht1, ht2, rfl, rfl, hr⟩ := hrel
    have fin : ∀ (a' : Act) (nq : Nat), ¬ (alo + t < ahi ∧ blo + t < bhi ∧ A (alo + t) = B (blo + t)) → a'.tmps.size = 121 → a'.defers = [] → a'.tmps.getD 0 undef = .pointer (some ⟨bd, 0, none⟩) → a'.tmps.getD 1 undef = .int .i64 ((alo : Int) + t) → a'.tmps.getD 2 undef = .int .i64 ahi → a'.tmps.getD 3 undef = .int .i64 ((blo : Int) + t) → a'.tmps.getD 4 undef = .int .i64 bhi → Q .normal a' (wr.drewN nq) := by
      intro a' nq hno e1 e2 e3 e4 e5 e6 e7
      refine hQ a' _ t ⟨e1, e2, e3, ?_, e5, ?_, e7⟩ (below_drewN hr.out.2 _) hr.out.1 ht1 ht2 hno
      · rw [e4]; congr 1
      · rw [e6]; congr 1
    clear hQ
    by_cases q1 : (alo : Int) + t < ahi
    · by_cases q2 : (blo : Int) + t < bhi
      · obtain ⟨ba, rfl, ra, _⟩ := HW.out.a (by omega)
        obtain ⟨bb, rfl, rb, _⟩ := HW.out.b (by omega)
        have k0 := cell_later hr.out.2 HW.out.d.c0
        have k1 := cell_later hr.out.2 HW.out.d.c1
        have ka : wr.cell? ⟨ba, alo + t, none⟩ = some (.int .i64 (A (alo + t))) := by have := cell_later hr.out.2 (ra (alo + t) (by omega)); rw [Nat.zero_add] at this; exact this
        have kb : wr.cell? ⟨bb, blo + t, none⟩ = some (.int .i64 (B (blo + t))) := by have := cell_later hr.out.2 (rb (blo + t) (by omega)); rw [Nat.zero_add] at this; exact this
        have i1 : (alo : Int) + t < N := by omega
        have i2 : (blo : Int) + t < M := by omega
        have FIN : Hid (∀ (a' : Act) (nq : Nat), ¬ (alo + t < ahi ∧ blo + t < bhi ∧ A (alo + t) = B (blo + t)) → a'.tmps.size = 121 → a'.defers = [] → a'.tmps.getD 0 undef = .pointer (some ⟨bd, 0, none⟩) → a'.tmps.getD 1 undef = .int .i64 ((alo : Int) + t) → a'.tmps.getD 2 undef = .int .i64 ahi → a'.tmps.getD 3 undef = .int .i64 ((blo : Int) + t) → a'.tmps.getD 4 undef = .int .i64 bhi → Q .normal a' (wr.drewN nq)) := fin
        clear fin ra rb
        go_wp2_with fail
        go_quiet (fail)
        go_wp2
        · have e : A (alo + t) = B (blo + t) := eq_of_beq (by assumption)
          go_roundw
          case rel => exact ⟨t + 1, by omega, by omega, by go_num, by go_num, fun u hu => by
            by_cases hut : u < t
            · exact hr.out.1 u hut
            · obtain rfl : u = t := by omega
              exact e, below_drewN hr.out.2 _⟩
          case measure => simp [intOf]; omega
        · have e : ¬ A (alo + t) = B (blo + t) := ne_of_beq_false (by assumption)
          exact FIN.out _ _ (fun h => e h.2.2) rfl rfl rfl rfl rfl rfl rfl
      · have q2' : decide ((blo : Int) + t < bhi) = false := by simpa using q2
        have FIN : Hid (∀ (a' : Act) (nq : Nat), ¬ (alo + t < ahi ∧ blo + t < bhi ∧ A (alo + t) = B (blo + t)) → a'.tmps.size = 121 → a'.defers = [] → a'.tmps.getD 0 undef = .pointer (some ⟨bd, 0, none⟩) → a'.tmps.getD 1 undef = .int .i64 ((alo : Int) + t) → a'.tmps.getD 2 undef = .int .i64 ahi → a'.tmps.getD 3 undef = .int .i64 ((blo : Int) + t) → a'.tmps.getD 4 undef = .int .i64 bhi → Q .normal a' (wr.drewN nq)) := fin
        clear fin
        go_wp2_with fail
        go_quiet (fail)
        go_wp2
        exact FIN.out _ _ (fun h => by omega) rfl rfl rfl rfl rfl rfl rfl
    · have q1' : decide ((alo : Int) + t < ahi) = false := by simpa using q1
      have FIN : Hid (∀ (a' : Act) (nq : Nat), ¬ (alo + t < ahi ∧ blo + t < bhi ∧ A (alo + t) = B (blo + t)) → a'.tmps.size = 121 → a'.defers = [] → a'.tmps.getD 0 undef = .pointer (some ⟨bd, 0, none⟩) → a'.tmps.getD 1 undef = .int .i64 ((alo : Int) + t) → a'.tmps.getD 2 undef = .int .i64 ahi → a'.tmps.getD 3 undef = .int .i64 ((blo : Int) + t) → a'.tmps.getD 4 undef = .int .i64 bhi → Q .normal a' (wr.drewN nq)) := fin
      clear fin
      go_wp2_with fail
      go_quiet (fail)
      go_wp2
      exact FIN.out _ _ (fun h => by omega) rfl rfl rfl rfl rfl rfl rfl

end
end Go.Proofs.Qxb6600330a
