import Derived.Test.Qxb6613577aMem
import Derived.Maps.Own
import Derived.Maps.Views
import Derived.WideKeyEntry
import Derived.DeepKeys4
namespace Go.Proofs.Qxb6613577a
open Go.RowKit
set_option linter.unusedVariables false

/-- Every block of cells keeps its tag and its length; only those of tag T may read otherwise. -/
def Calm (T : TypeId) (w w' : World) : Prop := ∀ (k : Nat) (cur : Array Value) (e : TypeId) (fr : Nat × Nat), w.heap[k]? = some (.cells cur e fr) → ∃ cur' : Array Value, w'.heap[k]? = some (.cells cur' e fr) ∧ cur'.size = cur.size ∧ (e ≠ T → cur' = cur)

theorem lt_of_heap {w : World} {k : Nat} {o : Obj} (h : w.heap[k]? = some o) : k < w.heap.size := (Array.getElem?_eq_some_iff.1 h).1

theorem Calm.of_below {T : TypeId} {w w' : World} (h : Below w.heap.size w w') : Calm T w w' := fun k cur e fr hk => ⟨cur, by rw [h.block k (lt_of_heap hk)]; exact hk, rfl, fun _ => rfl⟩
theorem Calm.of_map {T : TypeId} {w w' : World} {b : Nat} {es : Array MapEntry} {cl : Nat} (hb : w.heap[b]? = some (.map es cl)) (hg : w.grownBy w' (some b)) : Calm T w w' := fun k cur e fr hk => by
  refine ⟨cur, ?_, rfl, fun _ => rfl⟩
  rw [hg.block k (lt_of_heap hk) (by intro e'; cases e'; rw [hb] at hk; cases hk)]; exact hk
theorem Calm.set {w : World} {g i : Nat} {cs : Array Value} {e : TypeId} {u : Value} (hg : w.heap[g]? = some (.cells cs e (0, 0))) : Calm e w (w.setCell ⟨g, i, none⟩ u) := fun k cur e' fr hk => by
  by_cases h : k = g
  · subst h
    rw [hg] at hk
    cases hk
    exact ⟨_, heap_setCell_same w k i cs e u hg, by simp, fun h => absurd rfl h⟩
  · exact ⟨cur, by rw [heap_setCell_other _ _ _ _ h]; exact hk, rfl, fun _ => rfl⟩

/-- Blocks of tags 40 and 53 are as they were. -/
def Kp (w w' : World) : Prop := ∀ (k : Nat) (cur : Array Value) (e : TypeId) (fr : Nat × Nat), w.heap[k]? = some (.cells cur e fr) → e = 40 ∨ e = 53 → w'.heap[k]? = some (.cells cur e fr)
theorem Kp.refl (w : World) : Kp w w := fun _ _ _ _ h _ => h
theorem Kp.trans {a b c : World} (h : Kp a b) (k : Kp b c) : Kp a c := fun i cur e fr hi he => k i cur e fr (h i cur e fr hi he) he
theorem Kp.calm {T : TypeId} {w w' : World} (h : Calm T w w') (h1 : T ≠ 40) (h2 : T ≠ 53) : Kp w w' := fun k cur e fr hk he => by
  obtain ⟨cur', g1, -, g3⟩ := h k cur e fr hk
  rw [g1, g3 (he.elim (fun e => by rw [e]; exact Ne.symm h1) (fun e => by rw [e]; exact Ne.symm h2))]
theorem Kp.below {w w' : World} (h : Below w.heap.size w w') : Kp w w' := Kp.calm (T := 0) (Calm.of_below h) (by decide) (by decide)

/-- A row of pointers that may read anyhow: it lies apart from the table's list. -/
def Loose (w : World) (B L : Nat) (lb : Option Nat) (v : Value) : Prop := ∃ n xs, n ≤ L ∧ w.ownsRow B 35 1 v n xs ∧ (v.ownBlock = none ∨ v.ownBlock ≠ lb)

theorem Loose.calm {T : TypeId} {w w' : World} {B L : Nat} {lb : Option Nat} {v : Value} (h : Loose w B L lb v) (c : Calm T w w') : Loose w' B L lb v := by
  obtain ⟨n, xs, h1, h2, h3⟩ := h
  rcases h2 with ⟨hl, ⟨rfl, rfl⟩ | ⟨g, cap, cur, rfl, a1, a2, a3, a4, a5, a6⟩⟩
  · exact ⟨0, [], Nat.zero_le _, World.ownsRow_nil _ _ _ _, h3⟩
  · obtain ⟨cur', g1, g2, -⟩ := c g cur 35 (0, 0) a2
    refine ⟨n, cur'.toList.take (n * 1), h1, ⟨?_, Or.inr ⟨g, cap, cur', rfl, a1, g1, a3, a4, by omega, rfl⟩⟩, h3⟩
    rw [List.length_take, Array.length_toList]; omega
theorem Loose.mono {w : World} {B L L' : Nat} {lb : Option Nat} {v : Value} (h : Loose w B L lb v) (hL : L ≤ L') : Loose w B L' lb v := by
  obtain ⟨n, xs, h1, h2⟩ := h; exact ⟨n, xs, by omega, h2⟩
theorem Loose.list {w : World} {B L H : Nat} {lb lb' : Option Nat} {v : Value} (h : Loose w B L lb v) (hb : lb' = lb ∨ lb' = some H) (hH : w.heap.size ≤ H) : Loose w B L lb' v := by
  obtain ⟨n, xs, h1, h2, h3⟩ := h
  refine ⟨n, xs, h1, h2, ?_⟩
  rcases hb with rfl | rfl
  · exact h3
  · by_cases e : v.ownBlock = none
    · exact Or.inl e
    · refine Or.inr (fun e' => ?_)
      have := (h2.lt H e').2
      omega

/-- How the values of the map of destinations are told. -/
def Rp (v : Value) : Option (DataW Unit × List MemPlace) := match v with
  | .pointer none => some (.nil, [])
  | .pointer (some ⟨d, 0, none⟩) => some (.lit (.int .i64 d), [])
  | _ => none
def Rt (_ : Value) : Option (DataW Unit × List MemPlace) := some (.nil, [])

/-- The routing table while it is built: k destinations stand in it. -/
structure TabAt (w : World) (B t c dm mm vb ub nl L : Nat) (lv : Value) (k : Nat) (dst : Nat → Nat) (D : DataW Unit) : Prop where
  head : w.heap[t]? = some (.cells #[.pointer (some ⟨c, 0, none⟩), .map (some dm), lv, .map (some mm), .slice (some ⟨vb, 0, none⟩) nl nl, .slice (some ⟨ub, 0, none⟩) nl nl, .int .i64 0] 76 (0, 0))
  list : w.ownsRow B 35 1 lv k ((List.range k).map fun i => .pointer (some ⟨dst i, 0, none⟩))
  via : ∃ vs : Array Value, w.heap[vb]? = some (.cells vs 33 (0, 0)) ∧ vs.size = nl ∧ ∀ (i : Nat) (v : Value), vs[i]? = some v → Loose w B L lv.ownBlock v
  ups : ∃ us : Array Value, w.heap[ub]? = some (.cells us 4 (0, 0)) ∧ ∀ i : Nat, i < nl → us[i]? = some (.bool false)
  mem : ∃ es clock, w.heap[mm]? = some (.map es clock) ∧ es.size ≤ L ∧ WideElems.Fit Try.prog 48 Rt es clock ∧ ∀ x ∈ es.toList, Loose w B L lv.ownBlock x.val
  map : w.ownsMap Try.prog 79 Rp dm L D
  low : B ≤ t ∧ B ≤ dm ∧ B ≤ mm ∧ B ≤ vb ∧ B ≤ ub ∧ B ≤ w.heap.size
  ne : dm ≠ mm

section
variable {w w' : World} {B t c dm mm vb ub nl L : Nat} {lv : Value} {k : Nat} {dst : Nat → Nat} {D : DataW Unit}

theorem TabAt.below (h : TabAt w B t c dm mm vb ub nl L lv k dst D) (hb : Below w.heap.size w w') : TabAt w' B t c dm mm vb ub nl L lv k dst D := by
  have kb : ∀ {i : Nat} {o : Obj}, w.heap[i]? = some o → w'.heap[i]? = some o := fun hi => by rw [hb.block _ (lt_of_heap hi)]; exact hi
  have hc : Calm 0 w w' := Calm.of_below hb
  have hg : w.grownBy w' none := ⟨hb.os, hb.tape, hb.output, hb.size, fun k hk _ => hb.block k hk⟩
  obtain ⟨vs, v1, v2, v3⟩ := h.via
  obtain ⟨us, u1, u2⟩ := h.ups
  obtain ⟨es, cl, m1, m2, m3, m4⟩ := h.mem
  exact ⟨kb h.head, h.list.kept hg (by cases h' : lv.ownBlock <;> simp), ⟨vs, kb v1, v2, fun i v hv => (v3 i v hv).calm hc⟩, ⟨us, kb u1, u2⟩, ⟨es, cl, kb m1, m2, m3, fun x hx => (m4 x hx).calm hc⟩,
    h.map.kept hg (by simp), ⟨h.low.1, h.low.2.1, h.low.2.2.1, h.low.2.2.2.1, h.low.2.2.2.2.1, Nat.le_trans h.low.2.2.2.2.2 hb.size⟩, h.ne⟩

theorem TabAt.mono (h : TabAt w B t c dm mm vb ub nl L lv k dst D) {L' : Nat} (hL : L ≤ L') : TabAt w B t c dm mm vb ub nl L' lv k dst D := by
  obtain ⟨vs, v1, v2, v3⟩ := h.via
  obtain ⟨es, cl, m1, m2, m3, m4⟩ := h.mem
  exact ⟨h.head, h.list, ⟨vs, v1, v2, fun i v hv => (v3 i v hv).mono hL⟩, h.ups, ⟨es, cl, m1, by omega, m3, fun x hx => (m4 x hx).mono hL⟩, h.map.mono hL, h.low, h.ne⟩

/-- A change that leaves every block but one map's, and is that map's put. -/
theorem TabAt.put (h : TabAt w B t c dm mm vb ub nl L lv k dst D) {D' : DataW Unit} (hm : w'.ownsMap Try.prog 79 Rp dm (L + 1) D') (hg : w.grownBy w' (some dm)) : TabAt w' B t c dm mm vb ub nl (L + 1) lv k dst D' := by
  obtain ⟨es0, cl0, b0, -⟩ := id h.map
  have kc : ∀ {i : Nat} {cs : Array Value} {e : TypeId} {fr}, w.heap[i]? = some (.cells cs e fr) → w'.heap[i]? = some (.cells cs e fr) := fun hi => by
    rw [hg.block _ (lt_of_heap hi) (by intro e'; cases e'; rw [b0] at hi; cases hi)]; exact hi
  have hc : Calm 0 w w' := Calm.of_map b0 hg
  obtain ⟨vs, v1, v2, v3⟩ := h.via
  obtain ⟨us, u1, u2⟩ := h.ups
  obtain ⟨es, cl, m1, m2, m3, m4⟩ := h.mem
  refine ⟨kc h.head, h.list.kept hg ?_, ⟨vs, kc v1, v2, fun i v hv => ((v3 i v hv).calm hc).mono (by omega)⟩, ⟨us, kc u1, u2⟩, ⟨es, cl, ?_, by omega, m3, fun x hx => ((m4 x hx).calm hc).mono (by omega)⟩,
    hm, ⟨h.low.1, h.low.2.1, h.low.2.2.1, h.low.2.2.2.1, h.low.2.2.2.2.1, Nat.le_trans h.low.2.2.2.2.2 hg.size⟩, h.ne⟩
  · rcases h.list.2 with ⟨rfl, -⟩ | ⟨g, cap, cur, rfl, a1, a2, -⟩
    · exact Or.inl rfl
    · refine Or.inr (fun e => ?_)
      simp only [Value.ownBlock, Option.some.injEq] at e
      subst e; rw [b0] at a2; cases a2
  · rw [hg.block _ (lt_of_heap m1) (by intro e; cases e; exact h.ne rfl)]; exact m1

theorem map_range_snoc {α : Type} (f : Nat → α) (k : Nat) : (List.range (k + 1)).map f = (List.range k).map f ++ [f k] := by simp [List.range_succ]

/-- The list grows by one, and the table's field is set. -/
theorem TabAt.app_list (h : TabAt w B t c dm mm vb ub nl L lv k dst D) {g cap : Nat} (hown : w'.ownsRow B 35 1 (.slice (some ⟨g, 0, none⟩) (k + 1) cap) (k + 1) ((List.range k).map (fun i => .pointer (some ⟨dst i, 0, none⟩)) ++ [.pointer (some ⟨dst k, 0, none⟩)]))
    (hg : w.grownBy w' lv.ownBlock) (hat : lv.ownBlock = some g ∨ g = w.heap.size) (hc : Calm 35 w w') :
    TabAt (w'.setCell ⟨t, 2, none⟩ (.slice (some ⟨g, 0, none⟩) (k + 1) cap)) B t c dm mm vb ub nl L (.slice (some ⟨g, 0, none⟩) (k + 1) cap) (k + 1) dst D := by
  obtain ⟨es0, cl0, b0, -⟩ := id h.map
  obtain ⟨vs, v1, v2, v3⟩ := h.via
  obtain ⟨us, u1, u2⟩ := h.ups
  obtain ⟨es, cl, m1, m2, m3, m4⟩ := h.mem
  have kc : ∀ {i : Nat} {cs : Array Value} {e : TypeId} {fr}, w.heap[i]? = some (.cells cs e fr) → e ≠ 35 → w'.heap[i]? = some (.cells cs e fr) := fun hi he => by
    obtain ⟨cur', g1, -, g3⟩ := hc _ _ _ _ hi
    rw [g1, g3 he]
  have km : ∀ {i : Nat} {es : Array MapEntry} {cl : Nat}, w.heap[i]? = some (.map es cl) → w'.heap[i]? = some (.map es cl) ∧ i ≠ t := fun {i es cl} hi => by
    refine ⟨?_, by intro e; subst e; rw [h.head] at hi; cases hi⟩
    rw [hg.block _ (lt_of_heap hi) ?_]; · exact hi
    intro e
    rcases h.list.2 with ⟨rfl, -⟩ | ⟨g', cap', cur, rfl, a1, a2, -⟩
    · cases e
    · simp only [Value.ownBlock, Option.some.injEq] at e
      subst e; rw [a2] at hi; cases hi
  have ht := kc h.head (by decide)
  have hc2 : Calm 76 w' (w'.setCell ⟨t, 2, none⟩ (.slice (some ⟨g, 0, none⟩) (k + 1) cap)) := Calm.set ht
  have kt : ∀ {i : Nat} {cs : Array Value} {e : TypeId} {fr}, w.heap[i]? = some (.cells cs e fr) → e ≠ 35 → e ≠ 76 → (w'.setCell ⟨t, 2, none⟩ (.slice (some ⟨g, 0, none⟩) (k + 1) cap)).heap[i]? = some (.cells cs e fr) := fun hi he he2 => by
    obtain ⟨cur', g1, -, g3⟩ := hc2 _ _ _ _ (kc hi he)
    rw [g1, g3 he2]
  have hl : ∀ v, Loose w B L lv.ownBlock v → Loose (w'.setCell ⟨t, 2, none⟩ (.slice (some ⟨g, 0, none⟩) (k + 1) cap)) B L (some g) v := fun v hv =>
    ((hv.list (lb' := some g) (H := w.heap.size) (hat.elim (fun e => Or.inl e.symm) (fun e => Or.inr (by rw [e]))) (Nat.le_refl _)).calm hc).calm hc2
  have hgt : g ≠ t := by
    intro e; subst e
    rcases hown.2 with ⟨e, -⟩ | ⟨g', cap', cur, e, a1, a2, -⟩
    · cases e
    · simp only [Value.slice.injEq, Option.some.injEq, Addr.mk.injEq] at e
      obtain ⟨⟨rfl, -⟩, -⟩ := e
      rw [ht] at a2; cases a2
  have hs : w'.heap.size = (w'.setCell ⟨t, 2, none⟩ (.slice (some ⟨g, 0, none⟩) (k + 1) cap)).heap.size := by simp
  have hg2 : w'.grownBy (w'.setCell ⟨t, 2, none⟩ (.slice (some ⟨g, 0, none⟩) (k + 1) cap)) (some t) := ⟨rfl, rfl, rfl, by simp, fun i _ hi => heap_setCell_other _ _ _ _ (fun e => hi (by rw [e]))⟩
  refine ⟨?_, ?_, ⟨vs, kt v1 (by decide) (by decide), v2, fun i v hv => hl v (v3 i v hv)⟩, ⟨us, kt u1 (by decide) (by decide), u2⟩, ⟨es, cl, ?_, m2, m3, fun x hx => hl x.val (m4 x hx)⟩,
    (h.map.kept hg ?_).kept hg2 ?_, ⟨h.low.1, h.low.2.1, h.low.2.2.1, h.low.2.2.2.1, h.low.2.2.2.2.1, ?_⟩, h.ne⟩
  · rw [heap_setCell_same w' t 2 _ 76 _ ht]; rfl
  · rw [map_range_snoc]
    exact hown.kept hg2 (Or.inr (by simp only [Value.ownBlock, ne_eq, Option.some.injEq]; exact hgt))
  · rw [heap_setCell_other _ _ _ _ (km m1).2]; exact (km m1).1
  · intro e
    rcases h.list.2 with ⟨rfl, -⟩ | ⟨g', cap', cur, rfl, a1, a2, -⟩
    · cases e
    · simp only [Value.ownBlock, Option.some.injEq] at e
      subst e; rw [a2] at b0; cases b0
  · intro e; cases e; exact (km b0).2 rfl
  · rw [← hs]; exact Nat.le_trans h.low.2.2.2.2.2 hg.size
end
end Go.Proofs.Qxb6613577a
