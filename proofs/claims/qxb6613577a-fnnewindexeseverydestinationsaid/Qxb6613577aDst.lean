import Derived.Test.Qxb6613577aTab3
import Derived.Test.Qxb6613577aKey
namespace Go.Proofs.Qxb6613577a
open Go.RowKit
set_option linter.unusedVariables false

/-- A destination of the table. -/
def DstAt (w : World) (d p rn : Nat) (nest : Value) : Prop := ∃ (nv : Value) (rb : Nat) (rs : Array Value), w.heap[d]? = some (.cells #[.pointer (some ⟨p, 0, none⟩), nv, .slice (some ⟨rb, 0, none⟩) rn rn, .pointer none, nest, .bool false] 40 (0, 0)) ∧ w.heap[rb]? = some (.cells rs 53 (0, 0)) ∧ ∀ i : Nat, i < rn → rs[i]? = some (.int .u8 0)

theorem DstAt.kp {w w' : World} {d p rn : Nat} {nest : Value} (h : DstAt w d p rn nest) (k : Kp w w') : DstAt w' d p rn nest := by
  obtain ⟨nv, rb, rs, h1, h2, h3⟩ := h
  exact ⟨nv, rb, rs, k _ _ _ _ h1 (Or.inl rfl), k _ _ _ _ h2 (Or.inr rfl), h3⟩

/-- The last of the first k lines of this kind and point code. -/
def lastIx (ds : List DS) : Nat → Int → Int → Option Nat
  | 0, _, _ => none
  | k + 1, kind, pc => match ds[k]? with
    | some d => if d.kind = kind ∧ d.pc = pc then some k else lastIx ds k kind pc
    | none => lastIx ds k kind pc

theorem lastIx_lt (ds : List DS) : ∀ (k : Nat) (kind pc : Int) (i : Nat), lastIx ds k kind pc = some i → i < k ∧ i < ds.length
  | 0, _, _, _, h => by simp [lastIx] at h
  | k + 1, kind, pc, i, h => by
    unfold lastIx at h
    split at h
    · rename_i d hd
      split at h
      · cases h
        exact ⟨by omega, (List.getElem?_eq_some_iff.1 hd).1⟩
      · have := lastIx_lt ds k kind pc i h; exact ⟨by omega, this.2⟩
    · have := lastIx_lt ds k kind pc i h; exact ⟨by omega, this.2⟩

/-- How one entry of the map is told. -/
def tellIx (dst : Nat → Nat) : Option Nat → DataW Unit
  | none => .nil
  | some i => .lit (.int .i64 (dst i))

def MapOk (ds : List DS) (k : Nat) (dst : Nat → Nat) (D : DataW Unit) : Prop := Maps.IsMap D ∧ ∀ kind pc : Int, 0 ≤ kind → kind ≤ 255 → 0 ≤ pc → pc ≤ 4294967295 → D.atKey (.int .u64 (kind * 4294967296 + pc)) .nil = tellIx dst (lastIx ds k kind pc)

theorem MapOk.start (ds : List DS) (dst : Nat → Nat) : MapOk ds 0 dst (.map []) := ⟨Maps.isMap_empty, fun kind pc _ _ _ _ => by simp [lastIx, tellIx, DataW.atKey]⟩

theorem MapOk.congr {ds : List DS} {k : Nat} {dst dst' : Nat → Nat} {D : DataW Unit} (h : MapOk ds k dst D) (he : ∀ i, i < k → dst i = dst' i) : MapOk ds k dst' D := ⟨h.1, fun kind pc h1 h2 h3 h4 => by
  rw [h.2 kind pc h1 h2 h3 h4]
  cases hl : lastIx ds k kind pc with
  | none => rfl
  | some i => simp only [tellIx]; rw [he i (lastIx_lt ds k kind pc i hl).1]⟩

theorem MapOk.put {ds : List DS} {k : Nat} {dst : Nat → Nat} {D : DataW Unit} {d : DS} (h : MapOk ds k dst D) (hd : ds[k]? = some d) (hok : DsOk d) :
    MapOk ds (k + 1) dst (D.put (.int .u64 (d.kind * 4294967296 + d.pc)) (.lit (.int .i64 (dst k)))) := by
  obtain ⟨o1, o2, o3, o4, -⟩ := hok
  refine ⟨h.1.put _ _, fun kind pc h1 h2 h3 h4 => ?_⟩
  unfold lastIx
  rw [hd]
  by_cases e : d.kind = kind ∧ d.pc = pc
  · obtain ⟨rfl, rfl⟩ := e
    simp only [and_self, if_true, tellIx]
    exact Maps.atKey_put_same h.1 (by simp [WideAt.IsKeyLit]) _ _
  · simp only [e, if_false]
    rw [Maps.atKey_put_other (by intro e2; apply e; simp only [Lit.int.injEq, true_and] at e2; constructor <;> omega)]
    exact h.2 kind pc h1 h2 h3 h4

/-- Whither a full point code's nest leads. -/
def wantV (ds : List DS) (n : Nat) (dst : Nat → Nat) (pc : Int) : Value := match lastIx ds n 1 (clOf pc) with
  | none => .pointer none
  | some j => match ds[j]? with
    | some dj => if dj.nc then .pointer (some ⟨dst j, 0, none⟩) else .pointer none
    | none => .pointer none

def nestV (ds : List DS) (n : Nat) (dst : Nat → Nat) (d : DS) : Value := if d.kind = 0 then wantV ds n dst d.pc else .pointer none

theorem TabAt.congr {w : World} {B t c dm mm vb ub nl L : Nat} {lv : Value} {k : Nat} {dst dst' : Nat → Nat} {D : DataW Unit} (h : TabAt w B t c dm mm vb ub nl L lv k dst D) (he : ∀ i, i < k → dst i = dst' i) : TabAt w B t c dm mm vb ub nl L lv k dst' D := by
  have e : (List.range k).map (fun i => Value.pointer (some ⟨dst i, 0, none⟩)) = (List.range k).map (fun i => Value.pointer (some ⟨dst' i, 0, none⟩)) := List.map_congr_left (fun i hi => by rw [he i (List.mem_range.1 hi)])
  exact ⟨h.head, by rw [← e]; exact h.list, h.via, h.ups, h.mem, h.map, h.low, h.ne⟩

/-- A store into a destination. -/
theorem TabAt.set40 {w : World} {B t c dm mm vb ub nl L : Nat} {lv : Value} {k : Nat} {dst : Nat → Nat} {D : DataW Unit} (h : TabAt w B t c dm mm vb ub nl L lv k dst D) {d i : Nat} {cs : Array Value} {u : Value} (hd : w.heap[d]? = some (.cells cs 40 (0, 0))) :
    TabAt (w.setCell ⟨d, i, none⟩ u) B t c dm mm vb ub nl L lv k dst D := by
  obtain ⟨vs, v1, v2, v3⟩ := h.via
  obtain ⟨us, u1, u2⟩ := h.ups
  obtain ⟨es, cl, m1, m2, m3, m4⟩ := h.mem
  obtain ⟨es0, cl0, b0, -⟩ := id h.map
  have hc : Calm 40 w (w.setCell ⟨d, i, none⟩ u) := Calm.set hd
  have kc : ∀ {j : Nat} {cs : Array Value} {e : TypeId} {fr}, w.heap[j]? = some (.cells cs e fr) → e ≠ 40 → (w.setCell ⟨d, i, none⟩ u).heap[j]? = some (.cells cs e fr) := fun hi he => by
    obtain ⟨cur', g1, -, g3⟩ := hc _ _ _ _ hi
    rw [g1, g3 he]
  have hg : w.grownBy (w.setCell ⟨d, i, none⟩ u) (some d) := ⟨rfl, rfl, rfl, by simp, fun j _ hi => heap_setCell_other _ _ _ _ (fun e => hi (by rw [e]))⟩
  have nm : ∀ {j : Nat} {es : Array MapEntry} {cl : Nat}, w.heap[j]? = some (.map es cl) → j ≠ d := fun {j es cl} hi e => by
    subst e; rw [hd] at hi; cases hi
  refine ⟨kc h.head (by decide), h.list.kept hg ?_, ⟨vs, kc v1 (by decide), v2, fun i v hv => (v3 i v hv).calm hc⟩, ⟨us, kc u1 (by decide), u2⟩, ⟨es, cl, by rw [heap_setCell_other _ _ _ _ (nm m1)]; exact m1, m2, m3, fun x hx => (m4 x hx).calm hc⟩,
    h.map.kept hg (by intro e; cases e; exact nm b0 rfl), ⟨h.low.1, h.low.2.1, h.low.2.2.1, h.low.2.2.2.1, h.low.2.2.2.2.1, Nat.le_trans h.low.2.2.2.2.2 hg.size⟩, h.ne⟩
  rcases h.list.2 with ⟨rfl, -⟩ | ⟨g, cap, cur, rfl, a1, a2, -⟩
  · exact Or.inl rfl
  · refine Or.inr (fun e => ?_)
    simp only [Value.ownBlock, Option.some.injEq] at e
    subst e; rw [a2] at hd; cases hd
end Go.Proofs.Qxb6613577a
