import Derived.Test.Qxb6613577aTab
namespace Go.Proofs.Qxb6613577a
open Go.RowKit
open Go.WideElems (Fit rd rd_key findIdx_born findIdx_arr)
open Go.ChangeMaps (setBlock)
set_option linter.unusedVariables false

theorem laidOut' : laidOutB Try.prog = true := by kernel_rfl
theorem info35' : (Try.prog.info? 35).map (fun i => (i.zero, i.size, i.bytes)) = some (some (.pointer none), 1, 8) := by kernel_rfl
theorem kt48 : Try.prog.keyType 48 = true := by kernel_rfl
theorem kta48 : Try.prog.keyTypeAt 5 48 = true := by kernel_rfl
theorem kr48 : (decide (48 < Try.prog.types.size)) = true := by kernel_rfl
theorem cells48 : Try.prog.cellsOf 48 = 2 := by kernel_rfl
theorem cells42 : Try.prog.cellsOf 42 = 1 := by kernel_rfl
theorem cells46 : Try.prog.cellsOf 46 = 1 := by kernel_rfl
theorem size_ge : (decide (1 ≤ Try.prog.types.size)) = true := by kernel_rfl

theorem law48 : WideMaps.KeyLaw Try.prog 48 := deep_law_laid laidOut' (m := 5) (by omega) (of_decide_eq_true kr48) kta48 (by rw [Try.underlying48])

theorem wf_u32 (x : Int) (h : 0 ≤ x) (h' : x ≤ 4294967295) : (Lit.int .u32 x).wf = true := by
  simp [Lit.wf, IntKind.min, IntKind.max, IntKind.signed, IntKind.bits]; exact ⟨h, by omega⟩
theorem wf_u64 (x : Int) (h : 0 ≤ x) (h' : x ≤ 18446744073709551615) : (Lit.int .u64 x).wf = true := by
  simp [Lit.wf, IntKind.min, IntKind.max, IntKind.signed, IntKind.bits]; exact ⟨h, by omega⟩

theorem key_of_pair (P : Program) (k a b n : Nat) (fa fb : Field) (x : Int) (hn : P.types.size = n + 1) (hkt : P.keyType k = true) (hu : P.underlying k = some (.struct #[fa, fb])) (ha : P.underlying fa.type = some (.int .u8)) (hb : P.underlying fb.type = some (.int .u32))
    (ck : P.cellsOf k = 2) (ca : P.cellsOf fa.type = 1) (cb : P.cellsOf fb.type = 1) (na : (fa.name != "_") = true) (nb : (fb.name != "_") = true) (oa : fa.offset = 0) (ob : fb.offset = 1) (hw : (Lit.int .u32 x).wf = true) :
    ∃ kl, keyOf P k (.agg #[.int .u8 1, .int .u32 x]) = some kl := by
  have hw2 : (Lit.int .u8 1).wf = true := by decide
  have na' : fa.name ≠ "_" := by simpa using na
  have nb' : fb.name ≠ "_" := by simpa using nb
  unfold keyOf
  rw [hu]
  simp only [hkt, Bool.true_and, Value.formed, hu, ck, hn, Program.keyLits, Value.cells]
  simp [ha, hb, ca, cb, hw, hw2, oa, ob, na', nb']

theorem key48 (x : Int) (h : 0 ≤ x) (h' : x ≤ 4294967295) : ∃ kl, keyOf Try.prog 48 (.agg #[.int .u8 1, .int .u32 x]) = some kl :=
  key_of_pair Try.prog 48 42 46 (Try.prog.types.size - 1) _ _ x (by have := of_decide_eq_true size_ge; omega) kt48 Try.underlying48 Try.underlying42 Try.underlying46 cells48 cells42 cells46 rfl rfl rfl rfl (wf_u32 x h h')

section
variable {P : Program} {k : TypeId}

theorem map_modify {α β : Type} (g : α → β) (f : α → α) (hf : ∀ a, g (f a) = g a) : ∀ (l : List α) (j : Nat), (l.modify j f).map g = l.map g
  | [], j => by simp
  | a :: r, 0 => by simp [hf]
  | a :: r, j + 1 => by simp [List.modify_succ_cons, map_modify g f hf r j]

theorem mem_modify_val (val : Value) : ∀ (l : List MapEntry) (j : Nat) (x : MapEntry), x ∈ l.modify j (fun e => { e with val := val }) → x.val = val ∨ x ∈ l
  | [], j, x, h => by simp at h
  | a :: r, 0, x, h => by
    simp only [List.modify_zero_cons, List.mem_cons] at h
    rcases h with rfl | h
    · exact Or.inl rfl
    · exact Or.inr (List.mem_cons_of_mem _ h)
  | a :: r, j + 1, x, h => by
    simp only [List.modify_succ_cons, List.mem_cons] at h
    rcases h with rfl | h
    · exact Or.inr List.mem_cons_self
    · rcases mem_modify_val val r j x h with h | h
      · exact Or.inl h
      · exact Or.inr (List.mem_cons_of_mem _ h)

theorem reads_iff {x : MapEntry} : (∃ y, rd P k Rt x = some y) ↔ ∃ l, keyOf P k x.key = some l := by
  constructor
  · rintro ⟨y, hy⟩; exact ⟨_, rd_key hy⟩
  · rintro ⟨l, hl⟩; exact ⟨(l, .nil), by simp [rd, hl, Rt]⟩

theorem fit_modify {es : Array MapEntry} {clock : Nat} (F : Fit P k Rt es clock) (j : Nat) (val : Value) : Fit P k Rt (es.modify j (fun e => { e with val := val })) clock := by
  obtain ⟨s1, s2, s3⟩ := F.stamped
  have hb : (es.modify j (fun e => { e with val := val })).toList.map (·.born) = es.toList.map (·.born) := by rw [Array.toList_modify]; exact map_modify (fun x : MapEntry => x.born) (fun e : MapEntry => { e with val := val }) (fun _ => rfl) _ _
  have hk : (es.modify j (fun e => { e with val := val })).toList.map (·.key) = es.toList.map (·.key) := by rw [Array.toList_modify]; exact map_modify (fun x : MapEntry => x.key) (fun e : MapEntry => { e with val := val }) (fun _ => rfl) _ _
  refine ⟨by simpa using F.size, ⟨fun x hx => ?_, by rw [hb]; exact s2, by rw [hk]; exact s3⟩, fun x hx => reads_iff.2 ?_⟩
  · have : x.born ∈ es.toList.map (·.born) := by rw [← hb]; exact List.mem_map.2 ⟨x, hx, rfl⟩
    obtain ⟨y, hy, e⟩ := List.mem_map.1 this
    rw [← e]; exact s1 y hy
  · have : x.key ∈ es.toList.map (·.key) := by rw [← hk]; exact List.mem_map.2 ⟨x, hx, rfl⟩
    obtain ⟨y, hy, e⟩ := List.mem_map.1 this
    rw [← e]; exact F.keys y hy

/-- 'm[k] = f(m[k])' in two steps, in whatever world. -/
theorem entry_laws {t e : TypeId} {b : Nat} {es : Array MapEntry} {clock : Nat} {key z : Value} {kl : Lit} (K : WideMaps.KeyLaw P k) (ht : P.underlying t = some (.map k e)) (hz : ∀ u : World, (zeroValue e).run P u = .ok z u)
    (F : Fit P k Rt es clock) (hroom : es.size < maxLen) (hkey : keyOf P k key = some kl) :
    ∃ (v0 : Value) (st : Nat) (es1 : Array MapEntry) (clock1 : Nat),
      (∀ w : World, w.heap[b]? = some (.map es clock) → (Instr.mapEntry t (.map (some b)) key).run P w = .ok (.tuple #[v0, goInt st]) (setBlock w b (.map es1 clock1))) ∧
      Fit P k Rt es1 clock1 ∧ es1.size ≤ es.size + 1 ∧ (∀ x ∈ es1.toList, x.val = z ∨ x ∈ es.toList) ∧ (v0 = z ∨ ∃ y ∈ es.toList, y.val = v0) ∧
      ∀ val, ∃ es' clock', Fit P k Rt es' clock' ∧ es'.size ≤ es.size + 1 ∧ (∀ x ∈ es'.toList, x.val = val ∨ x.val = z ∨ x ∈ es.toList) ∧
        ∀ w : World, w.heap[b]? = some (.map es1 clock1) → (Instr.entryStore t (.map (some b)) (goInt st) val).run P w = .ok () (setBlock w b (.map es' clock')) := by
  obtain ⟨s1, s2, s3⟩ := F.stamped
  have stores : ∀ (es1 : Array MapEntry) (clock1 j : Nat) (e1 : MapEntry), Fit P k Rt es1 clock1 → es1.toList[j]? = some e1 → es1.size ≤ es.size + 1 → (∀ x ∈ es1.toList, x.val = z ∨ x ∈ es.toList) →
      ∀ val, ∃ es' clock', Fit P k Rt es' clock' ∧ es'.size ≤ es.size + 1 ∧ (∀ x ∈ es'.toList, x.val = val ∨ x.val = z ∨ x ∈ es.toList) ∧
        ∀ w : World, w.heap[b]? = some (.map es1 clock1) → (Instr.entryStore t (.map (some b)) (goInt e1.born) val).run P w = .ok () (setBlock w b (.map es' clock')) := by
    intro es1 clock1 j e1 F1 h1 hs hwho val
    refine ⟨es1.modify j (fun e => { e with val := val }), clock1, fit_modify F1 j val, by simpa using hs, fun x hx => ?_, fun w hw => ?_⟩
    · rw [Array.toList_modify] at hx
      rcases mem_modify_val val _ _ _ hx with h | h
      · exact Or.inl h
      · exact Or.inr (hwho x h)
    · have hidx : es1.findIdx? (fun e => ((e.born : Nat) : Int) == ((e1.born : Nat) : Int)) = some j := by
        rw [findIdx_arr]; exact findIdx_born F1.stamped.2.1 h1
      simp [Instr.entryStore, MapKept.run_getObj_map hw, asInt, asIntOf, goInt, hidx, MapKept.run_setObj_map _ hw, Result.andThen, setBlock]
  by_cases hp : ∃ (j : Nat) (e0 : MapEntry), es.toList[j]? = some e0 ∧ e0.key = key
  · obtain ⟨j, e0, h2, h3⟩ := hp
    have hj : es[j]? = some e0 := by simpa using h2
    refine ⟨e0.val, e0.born, es, clock, fun w hb => ?_, F, by omega, fun x hx => Or.inr hx, Or.inr ⟨e0, List.mem_of_getElem? h2, rfl⟩, stores es clock j e0 F h2 (by omega) (fun x hx => Or.inr hx)⟩
    rcases K.find w hkey es.toList F.keys with ⟨h1, h4⟩ | ⟨j', e', h1, h4, h5⟩
    · exact absurd h3 (h4 e0 (List.mem_of_getElem? h2))
    · have hjj : j' = j := by
        have hl : j' < (es.toList.map (·.key)).length := by simp only [List.length_map]; exact (List.getElem?_eq_some_iff.1 h4).1
        refine (List.getElem?_inj hl s3).1 ?_
        rw [List.getElem?_map, List.getElem?_map, h4, h2]; simp [h3, h5]
      subst hjj
      rw [h2] at h4; cases h4
      have hsame : es.modify j' (fun e => { e with key := key }) = es := by
        apply Array.ext'
        rw [Array.toList_modify]
        refine List.ext_getElem? (fun i => ?_)
        rw [List.getElem?_modify]
        by_cases e : j' = i
        · subst e; rw [h2]; simp [← h3]
        · simp [e]
      simp [Instr.mapEntry, run_underlying ht, MapKept.run_getObj_map hb, K.check w false hkey, h1, hj, h3, K.stays w hkey, hsame, MapKept.run_setObj_map _ hb, Result.andThen, setBlock]
  · have h2 : ∀ x ∈ es.toList, x.key ≠ key := fun x hx e => by
      obtain ⟨j, hj, rfl⟩ := List.getElem_of_mem hx
      exact hp ⟨j, _, List.getElem?_eq_getElem hj, e⟩
    have F1 : Fit P k Rt (es.push ⟨key, z, clock⟩) (clock + 1) := by
      refine ⟨by simp; omega, MapKept.stamped_push F.stamped h2, fun x hx => reads_iff.2 ?_⟩
      simp only [Array.toList_push, List.mem_append, List.mem_singleton] at hx
      rcases hx with hx | rfl
      · exact F.keys x hx
      · exact ⟨kl, hkey⟩
    have hwho : ∀ x ∈ (es.push ⟨key, z, clock⟩).toList, x.val = z ∨ x ∈ es.toList := fun x hx => by
      simp only [Array.toList_push, List.mem_append, List.mem_singleton] at hx
      rcases hx with hx | rfl
      · exact Or.inr hx
      · exact Or.inl rfl
    refine ⟨z, clock, es.push ⟨key, z, clock⟩, clock + 1, fun w hb => ?_, F1, by simp, hwho, Or.inl rfl, stores _ _ es.size ⟨key, z, clock⟩ F1 (by simp) (by simp) hwho⟩
    rcases K.find w hkey es.toList F.keys with ⟨h1, -⟩ | ⟨j', e', h1, h4, h5⟩
    · simp [Instr.mapEntry, run_underlying ht, MapKept.run_getObj_map hb, K.check w false hkey, h1, hz, MapKept.run_setObj_map _ hb, Result.andThen, setBlock]
    · exact absurd h5 (h2 e' (List.mem_of_getElem? h4))
end
end Go.Proofs.Qxb6613577a
