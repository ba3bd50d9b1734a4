import Derived.Test.Qxb6600330aIds
import Derived.Test.Qxb6600330aWorld
import Derived.StringKeys
namespace Go.Proofs.Qxb6600330a
open Go.RowKit Go.Maps
set_option linter.unusedVariables false

theorem kl_key (s : ByteArray) : WideAt.IsKeyLit (kl s) := trivial

/-- The map and its numbers in memory. -/
def MapIn (w : World) (B k n : Nat) (g : ByteArray → Int) (D : DataW Unit) : Prop := w.ownsMap Try.prog 9 (plainElem Try.prog 3) B k D ∧ Ids D n g ∧ n ≤ k
/-- What was numbered keeps its number. -/
def Ext2 (D D' : DataW Unit) (g g' : ByteArray → Int) : Prop := ∀ s, Maps.has D (kl s) = true → Maps.has D' (kl s) = true ∧ g' s = g s
theorem Ext2.refl (D : DataW Unit) (g : ByteArray → Int) : Ext2 D D g g := fun s h => ⟨h, rfl⟩
theorem Ext2.trans {D D' D'' : DataW Unit} {g g' g'' : ByteArray → Int} (h : Ext2 D D' g g') (k : Ext2 D' D'' g' g'') : Ext2 D D'' g g'' := fun s hs => ⟨(k s (h s hs).1).1, (k s (h s hs).1).2.trans (h s hs).2⟩
theorem ext2_put {D : DataW Unit} {n : Nat} {g : ByteArray → Int} {s : ByteArray} (h : Ids D n g) (hno : Maps.has D (kl s) = false) : Ext2 D (D.put (kl s) (i64 n)) g (updG g s n) := fun t ht => by
  have e : t ≠ s := fun e => by rw [e, hno] at ht; cases ht
  exact ⟨by rw [has_put_other (fun q => e (kl_inj q))]; exact ht, updG_ne e⟩

/-- What number(lines) leaves. -/
def Numbered (w : World) (B k l : Nat) (T : Nat → ByteArray) (g : ByteArray → Int) (D : DataW Unit) (e : Ending) (w' : World) : Prop :=
  ∃ bc n' g' D', e = .returned (.slice (some ⟨bc, 0, none⟩) l l) ∧ w.heap.size ≤ bc ∧ MapIn w' B (k + l) n' g' D' ∧ Ext2 D D' g g' ∧ (∀ i, i < l → Maps.has D' (kl (T i)) = true) ∧ w'.rowIs bc 3 l (fun i => .int .i64 (g' (T i))) ∧ Kept (fun b => b = B) w w'

theorem Kept.setNew {X : Nat → Prop} {w wr : World} (h : Kept X w wr) {a : Addr} (hb : w.heap.size ≤ a.block) (v : Value) : Kept X w (wr.setCell a v) :=
  ⟨h.os, h.tape, h.output, by have := h.size; simp [World.setCell]; omega, fun j hj hn => by rw [Below.heap_setCell _ _ _ _ (by omega)]; exact h.block j hj hn⟩
theorem MapIn.set {w : World} {B k n : Nat} {g : ByteArray → Int} {D : DataW Unit} (h : MapIn w B k n g D) {a : Addr} (hb : B ≠ a.block) (v : Value) {k' : Nat} (hk : k ≤ k') : MapIn (w.setCell a v) B k' n g D := by
  obtain ⟨⟨es, clock, h1, h2, h3, h4⟩, h5, h6⟩ := h
  exact ⟨⟨es, clock, by rw [Below.heap_setCell _ _ _ _ hb]; exact h1, h2, by omega, h4⟩, h5, by omega⟩
theorem Kept.grownB {B : Nat} {w wr w2 : World} (h : Kept (fun b => b = B) w wr) (hg : wr.grownBy w2 (some B)) : Kept (fun b => b = B) w w2 :=
  ⟨hg.os.trans h.os, hg.tape.trans h.tape, hg.output.trans h.output, Nat.le_trans h.size hg.size, fun j hj hn => by rw [hg.block j (Nat.lt_of_lt_of_le hj h.size) (fun e => hn (by simpa using e))]; exact h.block j hj hn⟩

set_option maxRecDepth 100000 in
set_option maxHeartbeats 2000000 in
theorem number_any (ao : Option Addr) (l c B bv k n : Nat) (T : Nat → ByteArray) (g : ByteArray → Int) (D : DataW Unit) (w : World) (hl : l ≤ 4096) (hk : k ≤ 4096) (ha : StrSl w ao l T) (hsz : ∀ i, i < l → (T i).size ≤ maxLen)
    (hm : MapIn w B k n g D) (hB : B < w.heap.size) (hne : bv ≠ B) (hcell : w.cell? ⟨bv, 0, none⟩ = some (.map (some B))) (haB : 0 < l → ∀ b o, ao = some ⟨b, o, none⟩ → b ≠ B) :
    Calls Try.prog 44 #[.slice ao l c, .pointer (some ⟨bv, 0, none⟩)] w (Numbered w B k l T g D) := by
  have HA : Hid (StrSl w ao l T ∧ (∀ i, i < l → (T i).size ≤ maxLen) ∧ (0 < l → ∀ b o, ao = some ⟨b, o, none⟩ → b ≠ B)) := ⟨ha, hsz, haB⟩
  have HM : Hid (MapIn w B k n g D) := hm
  have HC : Hid (w.cell? ⟨bv, 0, none⟩ = some (.map (some B)) ∧ bv ≠ B) := ⟨hcell, hne⟩
  clear ha hsz hm hcell hne haB
  have g0 : (l : Int) ≤ 4096 := by omega
  have mi := make_ints l (by omega)
  go_enter Try.func44, Try.ntmps44
  go_wp2_with fail
  clear mi
  have K1 : Hid (Kept (fun b => b = B) w (w.alloc (zeroInts l)) ∧ (w.alloc (zeroInts l)).rowIs w.heap.size 3 l (fun i => .int .i64 0) ∧ MapIn (w.alloc (zeroInts l)) B k n g D) := by
    refine ⟨.of_below ((Below.refl _ _).alloc (Nat.le_refl _) _), row_zeroInts (Go.Deep.blk_alloc_new _ _), ?_, HM.out.2⟩
    obtain ⟨es, clock, h1, h2⟩ := HM.out.1
    exact ⟨es, clock, by rw [Below.heap_alloc _ _ _ hB]; exact h1, h2⟩
  generalize w.alloc (zeroInts l) = wa at K1 ⊢
  obtain ⟨bc, ebc⟩ : ∃ bc, bc = w.heap.size := ⟨_, rfl⟩
  rw [← ebc]
  rw [← ebc] at K1
  have EBC : Hid (bc = w.heap.size ∧ B < bc) := ⟨ebc, by omega⟩
  clear ebc HM
  go_loopw [14] (fun v wr => ∃ i : Nat, i ≤ l ∧ v = .int .i64 (i : Int) ∧ Hid (∃ n' g' D', MapIn wr B (k + i) n' g' D' ∧ Ext2 D D' g g' ∧ (∀ j, j < i → Maps.has D' (kl (T j)) = true) ∧ wr.rowIs bc 3 l (fun j => .int .i64 (if j < i then g' (T j) else 0)) ∧ Kept (fun b => b = B) w wr)) (fun v wr => l - (intOf v).toNat)
  case atStart => exact ⟨0, by omega, rfl, n, g, D, K1.out.2.2, Ext2.refl _ _, fun j hj => by omega, K1.out.2.1.congr (fun j _ => by simp), K1.out.1⟩
  case round =>
    clear K1
    obtain ⟨i, hi, rfl, hr⟩ := hrel
    have hi3 : (i : Int) ≤ 4096 := by omega
    by_cases q : (i : Int) < l
    · obtain ⟨b, o, rfl, r⟩ := HA.out.1 (by omega)
      obtain ⟨n1, g1, D1, m1, m2, m3, m4, m5⟩ := hr.out
      have k1 : wr.cell? ⟨b, o + i, none⟩ = some (.string (T i)) := m5.cell (r i (by omega)) (HA.out.2.2 (by omega) b o rfl)
      have k2 : wr.cell? ⟨bv, 0, none⟩ = some (.map (some B)) := m5.cell HC.out.1 HC.out.2
      have hs1 := HA.out.2.1 i (by omega)
      have HW : Hid (MapIn wr B (k + i) n1 g1 D1 ∧ Ext2 D D1 g g1 ∧ (∀ j, j < i → Maps.has D1 (kl (T j)) = true) ∧ wr.rowIs bc 3 l (fun j => .int .i64 (if j < i then g1 (T j) else 0)) ∧ Kept (fun b => b = B) w wr) := ⟨m1, m2, m3, m4, m5⟩
      have c3 : wr.cell? ⟨bc, i, none⟩ = some (.int .i64 0) := by have := m4.cell (i := i) (by omega); simpa using this
      have c4 := m4.frozen i
      have SIZE : Hid (Maps.size D1 = n1) := m1.2.1.size
      have hn1 : n1 ≤ 8192 := by have := m1.2.2; omega
      have WF : (Lit.int .i64 (n1 : Int)).wf = true := WalkArith.wf_i64 (by omega)
      have ROW2 : ∀ w2 : World, wr.grownBy w2 (some B) → w2.cell? ⟨bc, i, none⟩ = some (.int .i64 0) := fun w2 hg2 => by
        rw [World.cell?_of_block (hg2.block bc m4.lt (by have := EBC.out.2; simp; omega))]; exact c3
      have ROW3 : ∀ w2 : World, wr.grownBy w2 (some B) → w2.frozen? ⟨bc, i, none⟩ = false := fun w2 hg2 => by
        rw [World.frozen?_of_block (hg2.block bc m4.lt (by have := EBC.out.2; simp; omega))]; exact c4
      have hval : Maps.has D1 (kl (T i)) = true → D1.atKey (kl (T i)) (i64 0) = i64 (g1 (T i)) := fun h => (m1.2.1.val (T i) h).1
      have HV : Hid (Maps.has D1 (kl (T i)) = true → D1.atKey (kl (T i)) (i64 0) = i64 (g1 (T i))) := hval
      obtain ⟨s, es⟩ : ∃ s, s = T i := ⟨_, rfl⟩
      rw [← es] at k1 hs1 HV
      have ES : Hid (s = T i) := es
      clear hval m1 m2 m3 m4 m5 es r hr HA
      by_cases hhas : Maps.has D1 (.string s.data.toList) = true
      · clear ROW2 ROW3
        go_wp2_with (first
          | (at_lookup; (refine wpList_lookup_own_ok_int _ rfl _ _ 65 rfl 9 3 .i64 law9 Try.underlying65 Try.underlying3 (zero3 _) B (k + i) D1 rfl HW.out.1.1 _ _ rfl (Go.WideMaps.keyOf_string_mk Try.underlying9 hs1) ?_); intro cc hat hwc)
          | (at_len; refine wpList_len_own _ rfl _ 65 rfl 9 3 Try.underlying65 _ B (k + i) D1 rfl HW.out.1.1 ?_; rw [SIZE.out])
          | (at_mapUpdate; refine wpList_mapUpdate_own _ rfl _ _ _ 65 rfl 9 3 law9 Try.underlying65 _ B (k + i) _ rfl HW.out.1.1 (by unfold maxLen; omega) _ _ _ rfl rfl (Go.WideMaps.keyOf_string_mk Try.underlying9 hs1) _ [] (plainElem_int Try.underlying3 WF) ?_; intro w2 hown2 hgrow2; have c5 := ROW2 w2 hgrow2; have c6 := ROW3 w2 hgrow2)
          | go_in)
        have EC : Hid (cc = g1 s) := by
          have h1 := HV.out hhas
          have h2 : D1.atKey (kl s) (i64 0) = i64 cc := hat
          rw [h1] at h2
          have : g1 s = cc := by simpa [i64] using h2
          exact this.symm
        go_roundw
        case rel =>
          refine ⟨i + 1, by omega, by go_num, n1, g1, D1, HW.out.1.set (by have := EBC.out.2; show B ≠ bc; omega) _ (by omega), HW.out.2.1, fun j hj => ?_, ?_, HW.out.2.2.2.2.setNew (by have := EBC.out.1; show w.heap.size ≤ bc; omega) _⟩
          · by_cases e : j = i
            · subst e; rw [← ES.out]; exact hhas
            · exact HW.out.2.2.1 j (by omega)
          · refine (HW.out.2.2.2.1.set i _).congr fun j hj => ?_
            show (if j = i then Value.int .i64 cc else .int .i64 (if j < i then g1 (T j) else 0)) = .int .i64 (if j < i + 1 then g1 (T j) else 0)
            by_cases e : j = i
            · subst e; rw [if_pos rfl, if_pos (by omega), EC.out, ES.out]
            · rw [if_neg e]
              by_cases e2 : j < i
              · rw [if_pos e2, if_pos (by omega)]
              · rw [if_neg e2, if_neg (by omega)]
        case measure => simp [intOf]; omega
      · have hno : Maps.has D1 (.string s.data.toList) = false := by simpa using hhas
        clear hhas
        go_wp2_with (first
          | (at_lookup; (refine wpList_lookup_own_ok_int _ rfl _ _ 65 rfl 9 3 .i64 law9 Try.underlying65 Try.underlying3 (zero3 _) B (k + i) D1 rfl HW.out.1.1 _ _ rfl (Go.WideMaps.keyOf_string_mk Try.underlying9 hs1) ?_); intro cc hat hwc)
          | (at_len; refine wpList_len_own _ rfl _ 65 rfl 9 3 Try.underlying65 _ B (k + i) D1 rfl HW.out.1.1 ?_; rw [SIZE.out])
          | (at_mapUpdate; refine wpList_mapUpdate_own _ rfl _ _ _ 65 rfl 9 3 law9 Try.underlying65 _ B (k + i) _ rfl HW.out.1.1 (by unfold maxLen; omega) _ _ _ rfl rfl (Go.WideMaps.keyOf_string_mk Try.underlying9 hs1) _ [] (plainElem_int Try.underlying3 WF) ?_; intro w2 hown2 hgrow2; have c5 := ROW2 w2 hgrow2; have c6 := ROW3 w2 hgrow2)
          | go_in)
        have hids := HW.out.1.2.1
        have hrow2 : w2.rowIs bc 3 l (fun j => .int .i64 (if j < i then g1 (T j) else 0)) := HW.out.2.2.2.1.of_block (hgrow2.block bc HW.out.2.2.2.1.lt (by have := EBC.out.2; simp; omega))
        have hmi : MapIn w2 B (k + i + 1) (n1 + 1) (updG g1 s n1) (D1.put (kl s) (i64 n1)) := ⟨hown2, ids_put hids hno (kl_key s), by have := HW.out.1.2.2; omega⟩
        have hex := ext2_put (s := s) hids hno
        go_roundw
        case rel =>
          refine ⟨i + 1, by omega, by go_num, n1 + 1, updG g1 s n1, D1.put (kl s) (i64 n1), hmi.set (by have := EBC.out.2; show B ≠ bc; omega) _ (by omega), HW.out.2.1.trans hex, fun j hj => ?_, ?_, (HW.out.2.2.2.2.grownB hgrow2).setNew (by have := EBC.out.1; show w.heap.size ≤ bc; omega) _⟩
          · by_cases e : j = i
            · subst e; rw [← ES.out]; exact has_put_same hids.tidy.isMap (kl_key s) _
            · exact (hex (T j) (HW.out.2.2.1 j (by omega))).1
          · refine (hrow2.set i _).congr fun j hj => ?_
            show (if j = i then Value.int .i64 (n1 : Int) else .int .i64 (if j < i then g1 (T j) else 0)) = .int .i64 (if j < i + 1 then updG g1 s n1 (T j) else 0)
            by_cases e : j = i
            · subst e; rw [if_pos rfl, if_pos (by omega), ← ES.out, updG_at]
            · rw [if_neg e]
              by_cases e2 : j < i
              · rw [if_pos e2, if_pos (by omega), (hex (T j) (HW.out.2.2.1 j e2)).2]
              · rw [if_neg e2, if_neg (by omega)]
        case measure => simp [intOf]; omega
    · have ei : i = l := by omega
      obtain ⟨n1, g1, D1, m1, m2, m3, m4, m5⟩ := hr.out
      have FIN : Hid (MapIn wr B (k + l) n1 g1 D1 ∧ Ext2 D D1 g g1 ∧ (∀ j, j < l → Maps.has D1 (kl (T j)) = true) ∧ wr.rowIs bc 3 l (fun j => .int .i64 (g1 (T j))) ∧ Kept (fun b => b = B) w wr) := by
        subst ei
        exact ⟨m1, m2, m3, m4.congr (fun j hj => by rw [if_pos hj]), m5⟩
      clear m1 m2 m3 m4 m5 hr
      go_wp2
      go_ret
      exact ⟨bc, n1, g1, D1, rfl, by have := EBC.out.1; omega, FIN.out.1, FIN.out.2.1, FIN.out.2.2.1, FIN.out.2.2.2.1, FIN.out.2.2.2.2⟩

end Go.Proofs.Qxb6600330a
