import Derived.Test.Qxb6613577aTab2
namespace Go.Proofs.Qxb6613577a
open Go.RowKit
open Go.WideElems (Fit)
open Go.ChangeMaps (setBlock heap_setBlock_same heap_setBlock_other)
set_option linter.unusedVariables false

section
variable (w : World)

/-- append of one pointer to a row of pointers: where the row lies behind it, and that every block keeps its make. -/
theorem run_app (ty : TypeId) (B : Nat) (v : Value) (n : Nat) (xs : List Value) (hown : w.ownsRow B 35 1 v n xs) (ad : Nat) (d : Value) (hblk : w.heap[ad]? = some (.cells #[d] 35 (0, 0))) (hd : d.oneCell' = true)
    (hn : n ≤ 1000000) (hbase : B ≤ w.heap.size) (H : Nat) (hH : w.heap.size = H) :
    ∃ g cap w', (Builtin.append_ #[33, 33] ty #[v, .slice (some ⟨ad, 0, none⟩) 1 1]).run Try.prog w = .ok (.slice (some ⟨g, 0, none⟩) (n + 1) cap) w' ∧
      w'.ownsRow B 35 1 (.slice (some ⟨g, 0, none⟩) (n + 1) cap) (n + 1) (xs ++ [d]) ∧ w.grownBy w' v.ownBlock ∧ (v.ownBlock = some g ∨ g = H) ∧ Calm 35 w w' := by
  obtain ⟨i, hi, hz, hs, hb⟩ := info_parts info35'
  have hnews : ∀ j u, [d][j]? = some u → w.cell? ((⟨ad, 0, none⟩ : Addr).add j) = some u := World.news_of_block (cs := #[d]) hblk
  obtain ⟨g, cap, w', h1, h2, h3, h4, h5⟩ := run_append_lies (P := Try.prog) w 33 ty B 35 i _ 1 8 Try.underlying33 hi hz hs hb rfl (by omega) v n xs hown ⟨ad, 0, none⟩ 1 1 [d] rfl hnews (by simp [hd]) (by omega) (by unfold maxLen; omega) (by omega) hbase H hH
  refine ⟨g, cap, w', h1, h2, h3, h4, ?_⟩
  rcases hown.2 with ⟨rfl, -⟩ | ⟨g0, cap0, cur, rfl, a1, a2, a3, a4, a5, a6⟩
  · exact Calm.of_below ⟨h3.os, h3.tape, h3.output, h3.size, fun k hk => h3.block k hk (by simp [Value.ownBlock])⟩
  · by_cases hroom : n + 1 ≤ cap0
    · have hr := run_append_room (P := Try.prog) w 33 ty 35 i Try.underlying33 hi g0 n cap0 cur a2 ⟨ad, 0, none⟩ 1 1 [d] (by rw [hs]; rfl) hnews (by simp [hd]) hroom (by rw [hs]; simp; omega)
      rw [hr] at h1
      simp only [Result.ok.injEq] at h1
      obtain ⟨-, rfl⟩ := h1
      intro k cur' e fr hk
      by_cases e' : k = g0
      · subst e'
        rw [a2] at hk; cases hk
        exact ⟨_, setRow_heap w k _ _ 35 (0, 0) a2, by rw [hs]; simp; omega, fun h => absurd rfl h⟩
      · exact ⟨cur', by rw [setRow_other w g0 k _ e']; exact hk, rfl, fun _ => rfl⟩
    · have hr := run_append_grow (P := Try.prog) w 33 ty 35 i _ Try.underlying33 hi hz ⟨g0, 0, none⟩ n cap0 xs (by rw [hs]; exact hown.1) (hown.cells (g := g0) rfl) ⟨ad, 0, none⟩ 1 1 [d] (by rw [hs]; rfl) hnews (by omega) (by omega) (growslice_fits (by omega) (by rw [hb]; omega))
      rw [hr] at h1
      simp only [Result.ok.injEq] at h1
      obtain ⟨-, rfl⟩ := h1
      exact Calm.of_below (w' := w.drew.alloc _) ⟨rfl, rfl, rfl, by simp, fun k hk => Below.heap_alloc w.drew _ k hk⟩

theorem wp_app {o : Oper} {a : Act} {K : Act → World → Prop} {Q : Exit → Act → World → Prop} (s x : Operand)
    (ho : o.op = .call { callee := .builtin .append, args := #[s, x], argTypes := #[33, 33] })
    (B : Nat) (v : Value) (n : Nat) (xs : List Value) (hs : a.eval s = v) (hown : w.ownsRow B 35 1 v n xs) (ad : Nat) (d : Value) (hx : a.eval x = .slice (some ⟨ad, 0, none⟩) 1 1) (hblk : w.heap[ad]? = some (.cells #[d] 35 (0, 0))) (hd : d.oneCell' = true)
    (hn : n ≤ 1000000) (hbase : B ≤ w.heap.size) (H : Nat) (hH : w.heap.size = H)
    (h : ∀ g cap w', w'.ownsRow B 35 1 (.slice (some ⟨g, 0, none⟩) (n + 1) cap) (n + 1) (xs ++ [d]) → w.grownBy w' v.ownBlock → (v.ownBlock = some g ∨ g = H) → Calm 35 w w' → K (a.put o.dst (.slice (some ⟨g, 0, none⟩) (n + 1) cap)) w') : o.wp Try.prog a w K Q := by
  obtain ⟨g, cap, w', hr, h2, h3, h4, h5⟩ := run_app w o.type B v n xs hown ad d hblk hd hn hbase H hH
  unfold Oper.wp execOp
  simp only [ho, resolve, invoke, builtin, Sem.run_bind, Sem.run_pure, Result.andThen_ok, List.map_toArray, List.map_cons, List.map_nil, hs, hx, hr]
  exact h g cap w' h2 h3 h4 h5

theorem wpList_app {ops : Array Oper} {rest : List Oper} {o : Oper} {a : Act} {Q : Exit → Act → World → Prop} (hgd : o.guard = none) (s x : Operand)
    (ho : o.op = .call { callee := .builtin .append, args := #[s, x], argTypes := #[33, 33] })
    (B : Nat) (v : Value) (n : Nat) (xs : List Value) (hs : a.eval s = v) (hown : w.ownsRow B 35 1 v n xs) (ad : Nat) (d : Value) (hx : a.eval x = .slice (some ⟨ad, 0, none⟩) 1 1) (hblk : w.heap[ad]? = some (.cells #[d] 35 (0, 0))) (hd : d.oneCell' = true)
    (hn : n ≤ 1000000) (hbase : B ≤ w.heap.size) (H : Nat) (hH : w.heap.size = H)
    (h : ∀ g cap w', w'.ownsRow B 35 1 (.slice (some ⟨g, 0, none⟩) (n + 1) cap) (n + 1) (xs ++ [d]) → w.grownBy w' v.ownBlock → (v.ownBlock = some g ∨ g = H) → Calm 35 w w' → wpList Try.prog ops Q rest (a.put o.dst (.slice (some ⟨g, 0, none⟩) (n + 1) cap)) w') : wpList Try.prog ops Q (o :: rest) a w :=
  wpList_plain hgd fun _ hK => wp_app w s x ho B v n xs hs hown ad d hx hblk hd hn hbase H hH fun g cap w' h2 h3 h4 h5 => hK _ _ (h g cap w' h2 h3 h4 h5)

theorem step_app {ops : Array Oper} {o : Oper} {a : Act} {K : Act → World → Prop} {Q : Exit → Act → World → Prop} {E : Prop} (hgd : o.guard = none) (s x : Operand)
    (ho : o.op = .call { callee := .builtin .append, args := #[s, x], argTypes := #[33, 33] })
    (B : Nat) (v : Value) (n : Nat) (xs : List Value) (hs : a.eval s = v) (hown : w.ownsRow B 35 1 v n xs) (ad : Nat) (d : Value) (hx : a.eval x = .slice (some ⟨ad, 0, none⟩) 1 1) (hblk : w.heap[ad]? = some (.cells #[d] 35 (0, 0))) (hd : d.oneCell' = true)
    (hn : n ≤ 1000000) (hbase : B ≤ w.heap.size) (H : Nat) (hH : w.heap.size = H)
    (h : ∀ g cap w', w'.ownsRow B 35 1 (.slice (some ⟨g, 0, none⟩) (n + 1) cap) (n + 1) (xs ++ [d]) → w.grownBy w' v.ownBlock → (v.ownBlock = some g ∨ g = H) → Calm 35 w w' → K (a.put o.dst (.slice (some ⟨g, 0, none⟩) (n + 1) cap)) w') :
    if Region.wanted o (yielded ops a.tmps) = true then Oper.wp Try.prog o a w K Q else E := by
  have hw : Region.wanted o (yielded ops a.tmps) = true := by simp [Region.wanted, hgd]
  rw [if_pos hw]
  exact wp_app w s x ho B v n xs hs hown ad d hx hblk hd hn hbase H hH h
end

section
variable {w w' : World} {B t c dm mm vb ub nl L : Nat} {lv : Value} {k : Nat} {dst : Nat → Nat} {D : DataW Unit}

/-- A row that stands apart from the list grows. -/
theorem TabAt.app_loose (h : TabAt w B t c dm mm vb ub nl L lv k dst D) {v : Value} {n : Nat} {xs xs' : List Value} (hown0 : w.ownsRow B 35 1 v n xs) (hvn : v.ownBlock = none ∨ v.ownBlock ≠ lv.ownBlock) (hn : n ≤ L) {g cap : Nat}
    (hown : w'.ownsRow B 35 1 (.slice (some ⟨g, 0, none⟩) (n + 1) cap) (n + 1) xs') (hg : w.grownBy w' v.ownBlock) (hat : v.ownBlock = some g ∨ g = w.heap.size) (hc : Calm 35 w w') :
    TabAt w' B t c dm mm vb ub nl L lv k dst D ∧ Loose w' B (L + 1) lv.ownBlock (.slice (some ⟨g, 0, none⟩) (n + 1) cap) := by
  obtain ⟨vs, v1, v2, v3⟩ := h.via
  obtain ⟨us, u1, u2⟩ := h.ups
  obtain ⟨es, cl, m1, m2, m3, m4⟩ := h.mem
  obtain ⟨es0, cl0, b0, -⟩ := id h.map
  have kc : ∀ {i : Nat} {cs : Array Value} {e : TypeId} {fr}, w.heap[i]? = some (.cells cs e fr) → e ≠ 35 → w'.heap[i]? = some (.cells cs e fr) := fun hi he => by
    obtain ⟨cur', g1, -, g3⟩ := hc _ _ _ _ hi
    rw [g1, g3 he]
  have nm : ∀ {i : Nat} {es : Array MapEntry} {cl : Nat}, w.heap[i]? = some (.map es cl) → some i ≠ v.ownBlock := fun {i es cl} hi e => by
    rcases hown0.2 with ⟨rfl, -⟩ | ⟨g', cap', cur, rfl, a1, a2, -⟩
    · cases e
    · simp only [Value.ownBlock, Option.some.injEq] at e
      subst e; rw [a2] at hi; cases hi
  refine ⟨⟨kc h.head (by decide), h.list.kept hg ?_, ⟨vs, kc v1 (by decide), v2, fun i v hv => (v3 i v hv).calm hc⟩, ⟨us, kc u1 (by decide), u2⟩, ⟨es, cl, by rw [hg.block _ (lt_of_heap m1) (nm m1)]; exact m1, m2, m3, fun x hx => (m4 x hx).calm hc⟩,
    h.map.kept hg (nm b0), ⟨h.low.1, h.low.2.1, h.low.2.2.1, h.low.2.2.2.1, h.low.2.2.2.2.1, Nat.le_trans h.low.2.2.2.2.2 hg.size⟩, h.ne⟩, n + 1, xs', by omega, hown, Or.inr ?_⟩
  · rcases hvn with e | e
    · rw [e]; cases lv.ownBlock <;> simp
    · exact Or.inr (Ne.symm e)
  · simp only [Value.ownBlock]
    intro e
    rcases hat with e2 | e2
    · rcases hvn with e3 | e3
      · rw [e3] at e2; cases e2
      · exact e3 (by rw [e2]; exact e)
    · have := (h.list.lt g e.symm).2
      omega

theorem TabAt.set_via (h : TabAt w B t c dm mm vb ub nl L lv k dst D) {u : Value} (hl : Loose w B L lv.ownBlock u) (idx : Nat) : TabAt (w.setCell ⟨vb, idx, none⟩ u) B t c dm mm vb ub nl L lv k dst D := by
  obtain ⟨vs, v1, v2, v3⟩ := h.via
  obtain ⟨us, u1, u2⟩ := h.ups
  obtain ⟨es, cl, m1, m2, m3, m4⟩ := h.mem
  obtain ⟨es0, cl0, b0, -⟩ := id h.map
  have hc : Calm 33 w (w.setCell ⟨vb, idx, none⟩ u) := Calm.set v1
  have kc : ∀ {i : Nat} {cs : Array Value} {e : TypeId} {fr}, w.heap[i]? = some (.cells cs e fr) → e ≠ 33 → (w.setCell ⟨vb, idx, none⟩ u).heap[i]? = some (.cells cs e fr) := fun hi he => by
    obtain ⟨cur', g1, -, g3⟩ := hc _ _ _ _ hi
    rw [g1, g3 he]
  have hg : w.grownBy (w.setCell ⟨vb, idx, none⟩ u) (some vb) := ⟨rfl, rfl, rfl, by simp, fun i _ hi => heap_setCell_other _ _ _ _ (fun e => hi (by rw [e]))⟩
  have nm : ∀ {i : Nat} {es : Array MapEntry} {cl : Nat}, w.heap[i]? = some (.map es cl) → i ≠ vb := fun {i es cl} hi e => by
    subst e; rw [v1] at hi; cases hi
  refine ⟨kc h.head (by decide), h.list.kept hg ?_, ⟨vs.setIfInBounds idx u, heap_setCell_same w vb idx vs 33 u v1, by simpa using v2, fun i v hv => ?_⟩, ⟨us, kc u1 (by decide), u2⟩, ⟨es, cl, by rw [heap_setCell_other _ _ _ _ (nm m1)]; exact m1, m2, m3, fun x hx => (m4 x hx).calm hc⟩,
    h.map.kept hg (by intro e; cases e; exact nm b0 rfl), ⟨h.low.1, h.low.2.1, h.low.2.2.1, h.low.2.2.2.1, h.low.2.2.2.2.1, Nat.le_trans h.low.2.2.2.2.2 hg.size⟩, h.ne⟩
  · rcases h.list.2 with ⟨rfl, -⟩ | ⟨g, cap, cur, rfl, a1, a2, -⟩
    · exact Or.inl rfl
    · refine Or.inr (fun e => ?_)
      simp only [Value.ownBlock, Option.some.injEq] at e
      subst e; rw [a2] at v1; cases v1
  · rw [Array.getElem?_setIfInBounds] at hv
    split at hv
    · split at hv
      · cases hv; exact hl.calm hc
      · cases hv
    · exact (v3 i v hv).calm hc

theorem TabAt.store_mem (h : TabAt w B t c dm mm vb ub nl L lv k dst D) {es' : Array MapEntry} {cl' : Nat} (hs : es'.size ≤ L) (hf : Fit Try.prog 48 Rt es' cl') (hl : ∀ x ∈ es'.toList, Loose w B L lv.ownBlock x.val) :
    TabAt (setBlock w mm (.map es' cl')) B t c dm mm vb ub nl L lv k dst D := by
  obtain ⟨vs, v1, v2, v3⟩ := h.via
  obtain ⟨us, u1, u2⟩ := h.ups
  obtain ⟨es, cl, m1, m2, m3, m4⟩ := h.mem
  obtain ⟨es0, cl0, b0, -⟩ := id h.map
  have hg : w.grownBy (setBlock w mm (.map es' cl')) (some mm) := ⟨rfl, rfl, rfl, by simp [setBlock], fun i _ hi => heap_setBlock_other m1 _ (fun e => hi (by rw [e]))⟩
  have hc : Calm 0 w (setBlock w mm (.map es' cl')) := Calm.of_map m1 hg
  have kc : ∀ {i : Nat} {cs : Array Value} {e : TypeId} {fr}, w.heap[i]? = some (.cells cs e fr) → (setBlock w mm (.map es' cl')).heap[i]? = some (.cells cs e fr) := fun {i cs e fr} hi => by
    rw [heap_setBlock_other m1 _ (by intro e'; subst e'; rw [m1] at hi; cases hi)]; exact hi
  refine ⟨kc h.head, h.list.kept hg ?_, ⟨vs, kc v1, v2, fun i v hv => (v3 i v hv).calm hc⟩, ⟨us, kc u1, u2⟩, ⟨es', cl', heap_setBlock_same m1 _, hs, hf, fun x hx => (hl x hx).calm hc⟩,
    h.map.kept hg (by intro e; cases e; exact h.ne rfl), ⟨h.low.1, h.low.2.1, h.low.2.2.1, h.low.2.2.2.1, h.low.2.2.2.2.1, Nat.le_trans h.low.2.2.2.2.2 hg.size⟩, h.ne⟩
  rcases h.list.2 with ⟨rfl, -⟩ | ⟨g, cap, cur, rfl, a1, a2, -⟩
  · exact Or.inl rfl
  · refine Or.inr (fun e => ?_)
    simp only [Value.ownBlock, Option.some.injEq] at e
    subst e; rw [a2] at m1; cases m1

theorem loose_nil (w : World) (B L : Nat) (lb : Option Nat) : Loose w B L lb (.slice none 0 0) := ⟨0, [], Nat.zero_le _, World.ownsRow_nil _ _ _ _, Or.inl rfl⟩
end
end Go.Proofs.Qxb6613577a
