import Derived.Test.Qxb6613577aBase
import Derived.Deep.RegionHeld3
import Derived.Deep.AppendLies
import Derived.Deep.DrawnRows
namespace Go.Proofs.Qxb6613577a
open Go.RowKit
set_option linter.unusedVariables false

/-- What was there reads as it did, but for block X. -/
def Same (X : Nat) (w w' : World) : Prop := ∀ q v, w.cell? q = some v → q.block ≠ X → w'.cell? q = some v

theorem Same.refl (X : Nat) (w : World) : Same X w w := fun _ _ h _ => h
theorem Same.trans {X : Nat} {a b c : World} (h : Same X a b) (k : Same X b c) : Same X a c := fun q v hq hx => k q v (h q v hq hx) hx
theorem Same.below {X B : Nat} {w w' : World} (h : Below B w w') (hB : w.heap.size ≤ B) : Same X w w' := fun q v hq _ => by
  rw [h.cell (p := q) (Nat.lt_of_lt_of_le (World.block_lt_of_cell? w q hq) hB)]; exact hq
theorem Same.set {X : Nat} {w : World} (q : Addr) (u : Value) (hq : q.block = X) : Same X w (w.setCell q u) := fun p v hp hx => by
  rw [World.cell?_setCell_other _ _ _ _ (by intro e; apply hx; rw [← e]; exact hq)]; exact hp
theorem Same.setAt {X i : Nat} {w : World} (u : Value) : Same X w (w.setCell ⟨X, i, none⟩ u) := Same.set _ _ rfl
theorem Same.alloc {X : Nat} {w : World} (o : Obj) : Same X w (w.alloc o) := Same.below ((Below.refl w.heap.size w).alloc (Nat.le_refl _) o) (Nat.le_refl _)

/-- The routes of a provisioned destination: nil or none; or a row of pairs, each leading to a linkset whose place is below nl. None lies in block X. -/
def RoutesAt (w : World) (X nl : Nat) (ra : Option Addr) (rn : Nat) : Prop := rn = 0 ∨ ∃ rb, ra = some ⟨rb, 0, none⟩ ∧ rb ≠ X ∧ ∀ j, j < rn → ∃ lk idx : Nat, ∃ cost : Int, w.cell? ⟨rb, j * 2, none⟩ = some (.pointer (some ⟨lk, 0, none⟩)) ∧ w.cell? ⟨rb, j * 2 + 1, none⟩ = some (.int .i64 cost) ∧ w.cell? ⟨lk, 3, none⟩ = some (.int .i64 idx) ∧ lk ≠ X ∧ idx < nl

theorem RoutesAt.same {w w' : World} {X nl : Nat} {ra : Option Addr} {rn : Nat} (h : RoutesAt w X nl ra rn) (s : Same X w w') : RoutesAt w' X nl ra rn := by
  rcases h with h | ⟨rb, h1, h2, h3⟩
  · exact Or.inl h
  · refine Or.inr ⟨rb, h1, h2, fun j hj => ?_⟩
    obtain ⟨lk, idx, cost, c1, c2, c3, c4, c5⟩ := h3 j hj
    exact ⟨lk, idx, cost, s _ _ c1 h2, s _ _ c2 h2, s _ _ c3 c4, c4, c5⟩

/-- A provisioned destination, as it lies. -/
def PdAt (w : World) (X nl p : Nat) (d : DS) : Prop := p ≠ X ∧ w.cell? ⟨p, 0, none⟩ = some (.int .u8 d.kind) ∧ w.cell? ⟨p, 1, none⟩ = some (.int .u32 d.pc) ∧ w.cell? ⟨p, 2, none⟩ = some (.bool d.nc) ∧
  ∃ ra, w.cell? ⟨p, 4, none⟩ = some (.slice ra d.rn d.rn) ∧ RoutesAt w X nl ra d.rn

theorem PdAt.same {w w' : World} {X nl p : Nat} {d : DS} (h : PdAt w X nl p d) (s : Same X w w') : PdAt w' X nl p d := by
  obtain ⟨h0, h1, h2, h3, ra, h4, h5⟩ := h
  exact ⟨h0, s _ _ h1 h0, s _ _ h2 h0, s _ _ h3 h0, ra, s _ _ h4 h0, h5.same s⟩

/-- The linksets' row: each of the first k leads to a linkset of its own place. -/
def LsAt (w : World) (X lsb k : Nat) : Prop := ∀ i, i < k → ∃ lk, w.cell? ⟨lsb, i, none⟩ = some (.pointer (some ⟨lk, 0, none⟩)) ∧ w.cell? ⟨lk, 3, none⟩ = some (.int .i64 i) ∧ lk ≠ X
theorem LsAt.same {w w' : World} {X lsb k : Nat} (h : LsAt w X lsb k) (hl : lsb ≠ X) (s : Same X w w') : LsAt w' X lsb k := fun i hi => by
  obtain ⟨lk, c1, c2, c3⟩ := h i hi
  exact ⟨lk, s _ _ c1 hl, s _ _ c2 c3, c3⟩

/-- n cells from the head of block g are there, and may be written. -/
def There (w : World) (g n : Nat) : Prop := ∀ j, j < n → (∃ v, w.cell? ⟨g, j, none⟩ = some v) ∧ w.frozen? ⟨g, j, none⟩ = false

theorem There.set {w : World} {g n : Nat} (h : There w g n) (q : Addr) (u : Value) : There (w.setCell q u) g n := fun j hj => by
  obtain ⟨⟨v, hv⟩, hf⟩ := h j hj
  refine ⟨?_, by rw [World.frozen?_setCell]; exact hf⟩
  by_cases e : q = ⟨g, j, none⟩
  · exact ⟨u, by rw [e, World.cell?_setCell_same _ _ _ hv]⟩
  · exact ⟨v, by rw [World.cell?_setCell_other _ _ _ _ e]; exact hv⟩
theorem There.below {w w' : World} {g n B : Nat} (h : There w g n) (hb : Below B w w') (hg : g < B) : There w' g n := fun j hj => by
  obtain ⟨⟨v, hv⟩, hf⟩ := h j hj
  exact ⟨⟨v, by rw [hb.cell (p := ⟨g, j, none⟩) hg]; exact hv⟩, by rw [hb.frozen (p := ⟨g, j, none⟩) hg]; exact hf⟩

theorem there_made {w : World} {base g n : Nat} {e : TypeId} {size : Nat} {xs : List Value} (h : w.ownsRow base e size (.slice (some ⟨g, 0, none⟩) n n) n xs) (hs : 0 < size) : There w g (n * size) := fun j hj => by
  have hl := h.1
  have hj' : j < xs.length := by omega
  refine ⟨⟨xs[j], ?_⟩, h.frozenAt j⟩
  have := h.cells (g := g) rfl j xs[j] (List.getElem?_eq_getElem hj')
  rw [Addr.add_lit, Nat.zero_add] at this
  exact this

theorem There.alloc {w : World} {g n : Nat} (h : There w g n) (hg : g < w.heap.size) (o : Obj) : There (w.alloc o) g n := h.below ((Below.refl w.heap.size w).alloc (Nat.le_refl _) o) hg

theorem cell_new {W : World} {c : Array Value} {T : TypeId} {g i : Nat} (hg : g = W.heap.size) : (W.alloc (.cells c T)).cell? ⟨g, i, none⟩ = c[i]? := by
  subst hg; rw [World.cell?_alloc_new]

/-- The linksets' row while it is filled. -/
def LsRow (w : World) (l k : Nat) : Prop := ∀ t, t < k → ∃ lk, w.cell? ⟨l, t, none⟩ = some (.pointer (some ⟨lk, 0, none⟩)) ∧ w.cell? ⟨lk, 3, none⟩ = some (.int .i64 t) ∧ l < lk

theorem LsRow.step {w : World} {l k n : Nat} (h : LsRow w l k) (ht : There w l n) (hk : k < n) (hl : l < w.heap.size) (c0 c1 c2 c4 : Value) (T : TypeId) :
    LsRow ((w.setCell ⟨l, k, none⟩ (.pointer (some ⟨w.heap.size, 0, none⟩))).alloc (.cells #[c0, c1, c2, .int .i64 k, c4] T)) l (k + 1) := by
  intro t ht'
  have hs : (w.setCell ⟨l, k, none⟩ (.pointer (some ⟨w.heap.size, 0, none⟩))).heap.size = w.heap.size := by simp
  obtain ⟨⟨v, hv⟩, -⟩ := ht k hk
  by_cases e : t = k
  · subst e
    refine ⟨w.heap.size, ?_, ?_, hl⟩
    · rw [((Below.refl w.heap.size _).alloc (by rw [hs]; exact Nat.le_refl _) _).cell (p := ⟨l, t, none⟩) hl, World.cell?_setCell_same _ _ _ hv]
    · rw [cell_new hs.symm]; rfl
  · obtain ⟨lk, g1, g2, g3⟩ := h t (by omega)
    have hlk := World.block_lt_of_cell? w _ g2
    refine ⟨lk, ?_, ?_, g3⟩
    · rw [((Below.refl w.heap.size _).alloc (by rw [hs]; exact Nat.le_refl _) _).cell (p := ⟨l, t, none⟩) hl, World.cell?_setCell_other _ _ _ _ (by intro e'; apply e; simpa using (congrArg Addr.off e').symm)]; exact g1
    · rw [((Below.refl w.heap.size _).alloc (by rw [hs]; exact Nat.le_refl _) _).cell (p := ⟨lk, 3, none⟩) hlk, World.cell?_setCell_other _ _ _ _ (by intro e'; have := congrArg Addr.block e'; simp at this; omega)]; exact g2

theorem LsRow.at {w : World} {l k X : Nat} (h : LsRow w l k) (hX : w.heap.size ≤ X) : LsAt w X l k := fun i hi => by
  obtain ⟨lk, g1, g2, g3⟩ := h i hi
  have := World.block_lt_of_cell? w _ g2
  exact ⟨lk, g1, g2, by simp at this; omega⟩

/-- A new row of routes while it is filled: the first j are laid. -/
def RtFill (w : World) (B X nl : Nat) (ra : Option Addr) (rn j : Nat) : Prop := (rn = 0) ∨ ∃ rb, ra = some ⟨rb, 0, none⟩ ∧ B ≤ rb ∧ rb < w.heap.size ∧ There w rb (rn * 2) ∧
  ∀ t, t < j → ∃ lk idx : Nat, ∃ cost : Int, w.cell? ⟨rb, t * 2, none⟩ = some (.pointer (some ⟨lk, 0, none⟩)) ∧ w.cell? ⟨rb, t * 2 + 1, none⟩ = some (.int .i64 cost) ∧ w.cell? ⟨lk, 3, none⟩ = some (.int .i64 idx) ∧ lk ≠ X ∧ lk < B ∧ idx < nl

theorem RtFill.routes {w : World} {B X nl rn : Nat} {ra : Option Addr} (h : RtFill w B X nl ra rn rn) (hX : X < B) : RoutesAt w X nl ra rn := by
  rcases h with h | ⟨rb, h1, h2, h3, h4, h5⟩
  · exact Or.inl h
  · refine Or.inr ⟨rb, h1, by omega, fun j hj => ?_⟩
    obtain ⟨lk, idx, cost, g1, g2, g3, g4, g5, g6⟩ := h5 j hj
    exact ⟨lk, idx, cost, g1, g2, g3, g4, g6⟩

theorem off_ne {g i j : Nat} (h : i ≠ j) : (⟨g, i, none⟩ : Addr) ≠ ⟨g, j, none⟩ := fun e => h (by simpa using congrArg Addr.off e)
theorem blk_ne {g k i j : Nat} (h : g ≠ k) : (⟨g, i, none⟩ : Addr) ≠ ⟨k, j, none⟩ := fun e => h (by simpa using congrArg Addr.block e)

theorem RtFill.step {w : World} {B X nl rb rn j lk idx : Nat} {cost : Int} (h2 : B ≤ rb) (h3 : rb < w.heap.size) (h4 : There w rb (rn * 2))
    (h5 : ∀ t, t < j → ∃ lk idx : Nat, ∃ cost : Int, w.cell? ⟨rb, t * 2, none⟩ = some (.pointer (some ⟨lk, 0, none⟩)) ∧ w.cell? ⟨rb, t * 2 + 1, none⟩ = some (.int .i64 cost) ∧ w.cell? ⟨lk, 3, none⟩ = some (.int .i64 idx) ∧ lk ≠ X ∧ lk < B ∧ idx < nl)
    (hj : j < rn) (hc : w.cell? ⟨lk, 3, none⟩ = some (.int .i64 idx)) (hX : lk ≠ X) (hB : lk < B) (hi : idx < nl) :
    RtFill ((w.setCell ⟨rb, j * 2, none⟩ (.pointer (some ⟨lk, 0, none⟩))).setCell ⟨rb, j * 2 + 1, none⟩ (.int .i64 cost)) B X nl (some ⟨rb, 0, none⟩) rn (j + 1) := by
  refine Or.inr ⟨rb, rfl, h2, by simpa using h3, (h4.set _ _).set _ _, fun t ht => ?_⟩
  obtain ⟨⟨v0, hv0⟩, -⟩ := h4 (j * 2) (by omega)
  obtain ⟨⟨v1, hv1⟩, -⟩ := h4 (j * 2 + 1) (by omega)
  by_cases e : t = j
  · subst e
    refine ⟨lk, idx, cost, ?_, ?_, ?_, hX, hB, hi⟩
    · rw [World.cell?_setCell_other _ _ _ _ (off_ne (by omega)), World.cell?_setCell_same _ _ _ hv0]
    · rw [World.cell?_setCell_same _ _ _ (by rw [World.cell?_setCell_other _ _ _ _ (off_ne (by omega))]; exact hv1)]
    · rw [World.cell?_setCell_other _ _ _ _ (blk_ne (by omega)), World.cell?_setCell_other _ _ _ _ (blk_ne (by omega))]; exact hc
  · obtain ⟨lk', idx', cost', g1, g2, g3, g4, g5, g6⟩ := h5 t (by omega)
    refine ⟨lk', idx', cost', ?_, ?_, ?_, g4, g5, g6⟩
    · rw [World.cell?_setCell_other _ _ _ _ (off_ne (by omega)), World.cell?_setCell_other _ _ _ _ (off_ne (by omega))]; exact g1
    · rw [World.cell?_setCell_other _ _ _ _ (off_ne (by omega)), World.cell?_setCell_other _ _ _ _ (off_ne (by omega))]; exact g2
    · rw [World.cell?_setCell_other _ _ _ _ (blk_ne (by omega)), World.cell?_setCell_other _ _ _ _ (blk_ne (by omega))]; exact g3
theorem RtFill.drew {w : World} {B X nl rn j : Nat} {ra : Option Addr} (h : RtFill w B X nl ra rn j) : RtFill w.drew B X nl ra rn j := h

theorem set2_cell {w : World} {g i j : Nat} {u v x : Value} {q : Addr} (h : w.cell? q = some x) (hb : q.block ≠ g) : ((w.setCell ⟨g, i, none⟩ u).setCell ⟨g, j, none⟩ v).drew.cell? q = some x := by
  show ((w.setCell ⟨g, i, none⟩ u).setCell ⟨g, j, none⟩ v).cell? q = some x
  rw [World.cell?_setCell_other _ _ _ _ (fun e => hb (by rw [← e])), World.cell?_setCell_other _ _ _ _ (fun e => hb (by rw [← e]))]; exact h

theorem below_drewN {B n : Nat} {w w' : World} (h : Below B w w') : Below B w (w'.drewN n) := ⟨h.os, h.tape, h.output, h.size, h.block⟩
theorem alloc_cell {w : World} {o : Obj} {x : Value} {q : Addr} (h : w.cell? q = some x) : (w.alloc o).drew.cell? q = some x := by
  show (w.alloc o).cell? q = some x
  rw [((Below.refl w.heap.size w).alloc (Nat.le_refl _) o).cell (p := q) (World.block_lt_of_cell? w q h)]; exact h
theorem set_alloc_cell {w : World} {g i : Nat} {u x : Value} {o : Obj} {q : Addr} (h : w.cell? q = some x) (hb : q.block ≠ g) : ((w.setCell ⟨g, i, none⟩ u).alloc o).drew.cell? q = some x :=
  alloc_cell (by rw [World.cell?_setCell_other _ _ _ _ (fun e => hb (by rw [← e]))]; exact h)

/-- The provisioned destinations' row: the first k lead each to its own line's. -/
def PdsAt (w : World) (pb nl : Nat) (ds : List DS) (pdf : Nat → Nat) (k : Nat) : Prop := ∀ t (h : t < ds.length), t < k → w.cell? ⟨pb, t, none⟩ = some (.pointer (some ⟨pdf t, 0, none⟩)) ∧ PdAt w pb nl (pdf t) ds[t]

theorem PdsAt.step {w : World} {pb nl n k : Nat} {ds : List DS} {pdf : Nat → Nat} {ra : Option Addr} {c5 : Value} (h : PdsAt w pb nl ds pdf k) (ht : There w pb n) (hk : k < n) (hkl : k < ds.length) (hp : pb < w.heap.size) (hr : RoutesAt w pb nl ra ds[k].rn) :
    PdsAt ((w.setCell ⟨pb, k, none⟩ (.pointer (some ⟨w.heap.size, 0, none⟩))).alloc (.cells #[.int .u8 ds[k].kind, .int .u32 ds[k].pc, .bool ds[k].nc, .bool false, .slice ra ds[k].rn ds[k].rn, c5] 65)) pb nl ds (fun t => if t = k then w.heap.size else pdf t) (k + 1) := by
  have hs : (w.setCell ⟨pb, k, none⟩ (.pointer (some ⟨w.heap.size, 0, none⟩))).heap.size = w.heap.size := by simp
  have hsame : ∀ o, Same pb w ((w.setCell ⟨pb, k, none⟩ (.pointer (some ⟨w.heap.size, 0, none⟩))).alloc o) := fun o => (Same.setAt _).trans (Same.alloc o)
  obtain ⟨⟨v, hv⟩, -⟩ := ht k hk
  intro t htl htk
  by_cases e : t = k
  · subst e
    simp only [if_true]
    refine ⟨?_, by omega, ?_, ?_, ?_, ra, ?_, hr.same (hsame _)⟩
    · rw [((Below.refl w.heap.size _).alloc (by rw [hs]; exact Nat.le_refl _) _).cell (p := ⟨pb, t, none⟩) hp, World.cell?_setCell_same _ _ _ hv]
    all_goals (rw [cell_new hs.symm]; rfl)
  · simp only [e, if_false]
    obtain ⟨g1, g2⟩ := h t htl (by omega)
    refine ⟨?_, g2.same (hsame _)⟩
    rw [((Below.refl w.heap.size _).alloc (by rw [hs]; exact Nat.le_refl _) _).cell (p := ⟨pb, t, none⟩) hp, World.cell?_setCell_other _ _ _ _ (off_ne (Ne.symm e))]; exact g1

/-- The provisioning file's object. -/
def CfgAt (w : World) (c nl : Nat) (ds : List DS) (pdf : Nat → Nat) : Prop := ∃ lsb pb, w.cell? ⟨c, 3, none⟩ = some (.slice (some ⟨lsb, 0, none⟩) nl nl) ∧ w.cell? ⟨c, 4, none⟩ = some (.slice (some ⟨pb, 0, none⟩) ds.length ds.length) ∧ PdsAt w pb nl ds pdf ds.length

theorem PdsAt.same {w w' : World} {pb nl k : Nat} {ds : List DS} {pdf : Nat → Nat} (h : PdsAt w pb nl ds pdf k) (s : ∀ q v, w.cell? q = some v → w'.cell? q = some v) : PdsAt w' pb nl ds pdf k := fun t h1 h2 => by
  obtain ⟨g1, g2⟩ := h t h1 h2
  exact ⟨s _ _ g1, g2.same (fun q v hq _ => s q v hq)⟩

theorem below_cells {w w' : World} {B : Nat} (hb : Below B w w') (hB : w.heap.size ≤ B) : ∀ q v, w.cell? q = some v → w'.cell? q = some v := fun q v hq => by
  rw [hb.cell (p := q) (Nat.lt_of_lt_of_le (World.block_lt_of_cell? w q hq) hB)]; exact hq

theorem CfgAt.same {w w' : World} {c nl : Nat} {ds : List DS} {pdf : Nat → Nat} (h : CfgAt w c nl ds pdf) (s : ∀ q v, w.cell? q = some v → w'.cell? q = some v) : CfgAt w' c nl ds pdf := by
  obtain ⟨lsb, pb, h1, h2, h3⟩ := h
  exact ⟨lsb, pb, s _ _ h1, s _ _ h2, h3.same s⟩

def CfgPost (w : World) (nl : Nat) (ds : List DS) (e : Ending) (w' : World) : Prop := ∃ c pdf, e = .returned (.pointer (some ⟨c, 0, none⟩)) ∧ CfgAt w' c nl ds pdf ∧ Below w.heap.size w w'
end Go.Proofs.Qxb6613577a
