import Derived.Test.Qxb6600330aExt
import Derived.Test.Qxb6600330aRounds
namespace Go.Proofs.Qxb6600330a
open Go.RowKit
set_option linter.unusedVariables false

/-- Of the blocks that were there all but those of X are as they were. -/
structure Kept (X : Nat → Prop) (w w' : World) : Prop where
  os : w'.os = w.os
  tape : w'.tape = w.tape
  output : w'.output = w.output
  size : w.heap.size ≤ w'.heap.size
  block : ∀ k, k < w.heap.size → ¬ X k → w'.heap[k]? = w.heap[k]?

theorem Kept.refl (X : Nat → Prop) (w : World) : Kept X w w := ⟨rfl, rfl, rfl, Nat.le_refl _, fun _ _ _ => rfl⟩
theorem Kept.trans {X : Nat → Prop} {a b c : World} (h : Kept X a b) (k : Kept X b c) : Kept X a c :=
  ⟨k.os.trans h.os, k.tape.trans h.tape, k.output.trans h.output, Nat.le_trans h.size k.size, fun i hi hx => (k.block i (Nat.lt_of_lt_of_le hi h.size) hx).trans (h.block i hi hx)⟩
theorem Kept.mono {X Y : Nat → Prop} {a b : World} (h : Kept X a b) (hxy : ∀ k, k < a.heap.size → X k → Y k) : Kept Y a b :=
  ⟨h.os, h.tape, h.output, h.size, fun i hi hx => h.block i hi (fun q => hx (hxy i hi q))⟩
theorem Kept.of_below {X : Nat → Prop} {w w' : World} (h : Below w.heap.size w w') : Kept X w w' := ⟨h.os, h.tape, h.output, h.size, fun k hk _ => h.block k hk⟩
theorem Kept.below {X : Nat → Prop} {w w' : World} (h : Kept X w w') {B : Nat} (hB : B ≤ w.heap.size) (hx : ∀ k, k < B → ¬ X k) : Below B w w' :=
  ⟨h.os, h.tape, h.output, h.size, fun k hk => h.block k (Nat.lt_of_lt_of_le hk hB) (hx k hk)⟩
theorem Kept.setCell {X : Nat → Prop} {w : World} {a : Addr} (v : Value) (hx : X a.block) : Kept X w (w.setCell a v) :=
  ⟨rfl, rfl, rfl, by simp [World.setCell], fun k hk hn => Below.heap_setCell _ _ _ _ (fun e => hn (e ▸ hx))⟩
theorem Kept.cell {X : Nat → Prop} {w w' : World} (h : Kept X w w') {a : Addr} {v : Value} (hc : w.cell? a = some v) (hx : ¬ X a.block) : w'.cell? a = some v := by
  rw [World.cell?_of_block (w := w) (h.block a.block (World.block_lt_of_cell? _ _ hc) hx)]; exact hc
theorem Kept.row {X : Nat → Prop} {w w' : World} (h : Kept X w w') {b : Nat} {t : TypeId} {n : Nat} {f : Nat → Value} (hr : w.rowIs b t n f) (hx : ¬ X b) : w'.rowIs b t n f :=
  hr.of_block (h.block b hr.lt hx)

/-- A row of ints in memory, from an offset on. -/
def IntRow (w : World) (b o n : Nat) (A : Nat → Int) : Prop := ∀ i, i < n → w.cell? ⟨b, o + i, none⟩ = some (.int .i64 (A i))
theorem IntRow.kept {X : Nat → Prop} {w w' : World} {b o n : Nat} {A : Nat → Int} (h : IntRow w b o n A) (k : Kept X w w') (hx : ¬ X b) : IntRow w' b o n A := fun i hi => k.cell (h i hi) hx

/-- The differ in memory: its seven cells. -/
structure DW (w : World) (bd : Nat) (va vb vr vad : Value) (bf bk mc : Nat) : Prop where
  c0 : w.cell? ⟨bd, 0, none⟩ = some va
  c1 : w.cell? ⟨bd, 1, none⟩ = some vb
  c2 : w.cell? ⟨bd, 2, none⟩ = some vr
  c3 : w.cell? ⟨bd, 3, none⟩ = some vad
  c4 : w.cell? ⟨bd, 4, none⟩ = some (.slice (some ⟨bf, 0, none⟩) (2 * mc + 3) (2 * mc + 3))
  c5 : w.cell? ⟨bd, 5, none⟩ = some (.slice (some ⟨bk, 0, none⟩) (2 * mc + 3) (2 * mc + 3))
  c6 : w.cell? ⟨bd, 6, none⟩ = some (.int .i64 mc)
theorem DW.kept {X : Nat → Prop} {w w' : World} {bd : Nat} {va vb vr vad : Value} {bf bk mc : Nat} (h : DW w bd va vb vr vad bf bk mc) (k : Kept X w w') (hx : ¬ X bd) : DW w' bd va vb vr vad bf bk mc :=
  ⟨k.cell h.c0 hx, k.cell h.c1 hx, k.cell h.c2 hx, k.cell h.c3 hx, k.cell h.c4 hx, k.cell h.c5 hx, k.cell h.c6 hx⟩

/-- The graph in memory: its three cells. -/
structure GW (w : World) (bg n m mc : Nat) : Prop where
  g0 : w.cell? ⟨bg, 0, none⟩ = some (.int .i64 n)
  g1 : w.cell? ⟨bg, 1, none⟩ = some (.int .i64 m)
  g2 : w.cell? ⟨bg, 2, none⟩ = some (.int .i64 mc)
theorem GW.kept {X : Nat → Prop} {w w' : World} {bg n m mc : Nat} (h : GW w bg n m mc) (k : Kept X w w') (hx : ¬ X bg) : GW w' bg n m mc :=
  ⟨k.cell h.g0 hx, k.cell h.g1 hx, k.cell h.g2 hx⟩

/-- The search's two tables. -/
structure TW (w : World) (bf bk mc : Nat) (F G : Nat → Int) : Prop where
  f : w.rowIs bf 3 (2 * mc + 3) (fun i => .int .i64 (F i))
  g : w.rowIs bk 3 (2 * mc + 3) (fun i => .int .i64 (G i))
  ne : bf ≠ bk

theorem row_upd {w : World} {b n : Nat} {F : Nat → Int} (h : w.rowIs b 3 n (fun i => .int .i64 (F i))) (i : Nat) (v : Int) : (w.setCell ⟨b, i, none⟩ (.int .i64 v)).rowIs b 3 n (fun j => .int .i64 (upd F i v j)) :=
  (h.set i (.int .i64 v)).congr fun j hj => by
    show (if j = i then Value.int .i64 v else .int .i64 (F j)) = .int .i64 (upd F i v j)
    unfold upd
    by_cases e : j = i
    · rw [if_pos e, if_pos e]
    · rw [if_neg e, if_neg e]
theorem TW.setF {w : World} {bf bk mc : Nat} {F G : Nat → Int} (h : TW w bf bk mc F G) (i : Nat) (v : Int) : TW (w.setCell ⟨bf, i, none⟩ (.int .i64 v)) bf bk mc (upd F i v) G :=
  ⟨row_upd h.f i v, h.g.setOther (fun e => h.ne e.symm) _, h.ne⟩
theorem TW.setG {w : World} {bf bk mc : Nat} {F G : Nat → Int} (h : TW w bf bk mc F G) (i : Nat) (v : Int) : TW (w.setCell ⟨bk, i, none⟩ (.int .i64 v)) bf bk mc F (upd G i v) :=
  ⟨h.f.setOther h.ne _, row_upd h.g i v, h.ne⟩
theorem TW.kept {X : Nat → Prop} {w w' : World} {bf bk mc : Nat} {F G : Nat → Int} (h : TW w bf bk mc F G) (k : Kept X w w') (h1 : ¬ X bf) (h2 : ¬ X bk) : TW w' bf bk mc F G :=
  ⟨k.row h.f h1, k.row h.g h2, h.ne⟩

def none' : Nat → Prop := fun _ => False
theorem kept_below {w w' : World} (h : Below w.heap.size w w') : Kept none' w w' := Kept.of_below h

/-- ALL THAT split's SEARCH KNOWS OF MEMORY, w0 being the world in which it began. -/
structure WI (w0 w : World) (bd bg ba bb bf bk : Nat) (va vb vr vad : Value) (alo blo n m mc : Nat) (A B F G : Nat → Int) : Prop where
  d : DW w bd va vb vr vad bf bk mc
  g : GW w bg n m mc
  a : IntRow w ba alo n A
  b : IntRow w bb blo m B
  t : TW w bf bk mc F G
  k : Kept (fun k => k = bf ∨ k = bk) w0 w
  nd : ¬ (bd = bf ∨ bd = bk)
  ng : ¬ (bg = bf ∨ bg = bk)
  na : ¬ (ba = bf ∨ ba = bk)
  nb : ¬ (bb = bf ∨ bb = bk)

section
variable {w0 w w' : World} {bd bg ba bb bf bk : Nat} {va vb vr vad : Value} {alo blo n m mc : Nat} {A B F G : Nat → Int}
theorem WI.below (h : WI w0 w bd bg ba bb bf bk va vb vr vad alo blo n m mc A B F G) (hb : Below w.heap.size w w') : WI w0 w' bd bg ba bb bf bk va vb vr vad alo blo n m mc A B F G := by
  have k := kept_below hb
  exact ⟨h.d.kept k id, h.g.kept k id, h.a.kept k id, h.b.kept k id, h.t.kept k id id, h.k.trans (Kept.of_below hb), h.nd, h.ng, h.na, h.nb⟩
theorem WI.setF (h : WI w0 w bd bg ba bb bf bk va vb vr vad alo blo n m mc A B F G) (i : Nat) (v : Int) : WI w0 (w.setCell ⟨bf, i, none⟩ (.int .i64 v)) bd bg ba bb bf bk va vb vr vad alo blo n m mc A B (upd F i v) G := by
  have k : Kept (fun k => k = bf ∨ k = bk) w (w.setCell ⟨bf, i, none⟩ (.int .i64 v)) := Kept.setCell _ (.inl rfl)
  exact ⟨h.d.kept k h.nd, h.g.kept k h.ng, h.a.kept k h.na, h.b.kept k h.nb, h.t.setF i v, h.k.trans k, h.nd, h.ng, h.na, h.nb⟩
theorem WI.setG (h : WI w0 w bd bg ba bb bf bk va vb vr vad alo blo n m mc A B F G) (i : Nat) (v : Int) : WI w0 (w.setCell ⟨bk, i, none⟩ (.int .i64 v)) bd bg ba bb bf bk va vb vr vad alo blo n m mc A B F (upd G i v) := by
  have k : Kept (fun k => k = bf ∨ k = bk) w (w.setCell ⟨bk, i, none⟩ (.int .i64 v)) := Kept.setCell _ (.inr rfl)
  exact ⟨h.d.kept k h.nd, h.g.kept k h.ng, h.a.kept k h.na, h.b.kept k h.nb, h.t.setG i v, h.k.trans k, h.nd, h.ng, h.na, h.nb⟩
end

theorem below_undrew {w w1 : World} (h : Below w.drew.heap.size w.drew w1) : Below w.heap.size w w1 := ⟨h.os, h.tape, h.output, h.size, h.block⟩
theorem cell_set_other {w : World} {a b : Addr} {v u : Value} (h : w.cell? a = some v) (hne : a.block ≠ b.block) : (w.setCell b u).cell? a = some v := by
  rw [World.cell?_of_block (w := w) (Below.heap_setCell w b u a.block hne)]; exact h

theorem at_any (n m c : Nat) (ce k cost : Int) (b : Nat) (F : Nat → Int) (w : World) (h1 : -10000 ≤ ce) (h2 : ce ≤ 10000) (h3 : -30000 ≤ k) (h4 : k ≤ 30000) (h6 : c ≤ 10000) (h7 : -1 ≤ cost) (h8 : cost ≤ c)
    (h10 : n ≤ 10000) (h12 : m ≤ 10000) (hr : w.rowIs b 3 (2 * c + 3) (fun i => .int .i64 (F i))) :
    Calls Try.prog 40 #[.agg #[.int .i64 n, .int .i64 m, .int .i64 c], .slice (some ⟨b, 0, none⟩) (2 * c + 3) (2 * c + 3), .int .i64 ce, .int .i64 k, .int .i64 cost] w fun e w' => e = .returned (.int .i64 (atv F n m c ce k cost)) ∧ Below w.heap.size w w' := by
  by_cases h : ce - cost ≤ k ∧ -(m : Int) ≤ k ∧ k ≤ ce + cost ∧ k ≤ n
  · have e : atv F n m c ce k cost = F (k - ce + c + 1).toNat := if_pos h
    rw [e]
    exact at_in n m c ce k cost _ b (2 * c + 3) w (by omega) (by omega) (by omega) (by omega) (by omega) (by omega) (by omega) (by omega) (by omega) (by omega) (by omega) (by omega) h.1 h.2.1 h.2.2.1 h.2.2.2 (by omega) (by omega)
      (hr.cell (by omega))
  · have e : atv F n m c ce k cost = -1 := if_neg h
    rw [e]
    exact at_out n m c ce k cost _ w (by omega) (by omega) (by omega) (by omega) (by omega) (by omega) (by omega) (by omega) (by omega) (by omega) (by omega) (by omega) (by omega)

end Go.Proofs.Qxb6600330a
