import Derived.Test.Qxb6600330aGraph
import Derived.Deep.OwnRows
namespace Go.Proofs.Qxb6600330a
open Go.RowKit
set_option linter.unusedVariables false

/-- A world that comes behind w: new blocks, draws; every block that was there is as it was. -/
def Ext (w : World) : Type := { w' : World // Below w.heap.size w w' }
def wext (w : World) (x : Ext w) : World := x.val
theorem wext_below (w : World) (x : Ext w) : Below w.heap.size w (wext w x) := x.property
theorem wext_of {w w' : World} (h : Below w.heap.size w w') : ∃ x : Ext w, w' = wext w x := ⟨⟨w', h⟩, rfl⟩
theorem ext_nonempty (w : World) : Nonempty (Ext w) := ⟨⟨w, Below.refl _ _⟩⟩
theorem wext_cell (w : World) (x : Ext w) {a : Addr} {v : Value} (h : w.cell? a = some v) : (wext w x).cell? a = some v := cell_later (wext_below w x) h

/-- A callee that makes blocks of its own alone, met in the midst of a region. -/
theorem Calls.ext {P : Program} {f : FuncId} {args : Array Value} {w : World} {x : Ext w} {v : Value}
    (h : Calls P f args (wext w x) fun e w' => e = .returned v ∧ Below (wext w x).heap.size (wext w x) w') : Calls P f args (wext w x) fun e w'' => e = .returned v ∧ ∃ y : Ext w, w'' = wext w y :=
  h.mono fun _ _ ⟨he, hb⟩ => ⟨he, wext_of ((wext_below w x).trans (hb.mono (wext_below w x).size))⟩

theorem wp_region_ext {P : Program} {id : Nat} {Q : Exit → Act → World → Prop} {a : Act} {w : World} {l : List Oper} (hm : P.follows .mixedOrders = true) (hB : Region.lexB .any l.toArray = true)
    (h : wpQuiet P l.toArray (fun w' => ∃ x : Ext w, w' = wext w x) (fun a' => ∀ w', Below w.heap.size w w' → Q .normal a' w') l a) : (Code.region id l.toArray true).wp P Q a w := by
  refine wp_region_quiet (C := fun w' => ∃ x : Ext w, w' = wext w x) hm hB (wext_of (Below.refl _ _).drew) ?_
  have e : (fun a' => ∀ w', (∃ x : Ext w, w' = wext w x) → Q .normal a' w') = (fun a' => ∀ w', Below w.heap.size w w' → Q .normal a' w') := by
    funext a'
    refine propext ⟨fun H w' hb => H w' (wext_of hb), fun H w' ⟨x, hx⟩ => H w' (hx ▸ wext_below w x)⟩
  rw [e]
  simpa using h

end Go.Proofs.Qxb6600330a
