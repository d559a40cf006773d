import Derived.Test.Qxb6613577aMem
import Derived.Deep.QuietTactic
import Derived.BigQuiet
namespace Go.Proofs.Qxb6613577a
open Go.RowKit
set_option linter.unusedVariables false
attribute [local go_sem ↓] Go.wp_at_zero Go.wp_at_succ

theorem info63' : (Try.prog.info? 63).map (fun i => (i.zero, i.size, i.bytes)) = some (some (.agg #[.pointer none, .int .i64 0]), 2, 16) := by kernel_rfl

/-- The row of the cheapest routes while it is gathered. -/
def NR (w : World) (B : Nat) (v : Value) (m : Nat) : Prop := (v = .slice none 0 0 ∧ m = 0) ∨ (1 ≤ m ∧ ∃ g cap xs c, v = .slice (some ⟨g, 0, none⟩) m cap ∧ w.ownsRow B 63 2 v m xs ∧ xs[1]? = some (.int .i64 c))

def NormPost (w : World) (e : Ending) (w' : World) : Prop := ∃ v m, e = .returned v ∧ NR w' w.heap.size v m ∧ Below w.heap.size w w'

theorem own_head {w : World} {B g m cap : Nat} {xs : List Value} (h : w.ownsRow B 63 2 (.slice (some ⟨g, 0, none⟩) m cap) m xs) : w.ownsRow B 63 2 (.slice (some ⟨g, 0, none⟩) 0 cap) 0 [] := by
  rcases h.2 with ⟨e, -⟩ | ⟨g', cap', cur, e, a1, a2, a3, a4, a5, a6⟩
  · cases e
  · simp only [Value.slice.injEq, Option.some.injEq, Addr.mk.injEq] at e
    obtain ⟨⟨rfl, -⟩, -, rfl⟩ := e
    exact ⟨rfl, Or.inr ⟨g, cap, cur, rfl, a1, a2, Nat.zero_le _, a4, a5, by simp⟩⟩

theorem own_below2 {w w' : World} {B : Nat} {e : TypeId} {size : Nat} {v : Value} {n : Nat} {xs : List Value} (h : w.ownsRow B e size v n xs) (hb : Below w.heap.size w w') : w'.ownsRow B e size v n xs :=
  h.kept (row := none) ⟨hb.os, hb.tape, hb.output, hb.size, fun k hk _ => hb.block k hk⟩ (by cases h' : v.ownBlock <;> simp)
theorem own_cap {w : World} {B g m cap : Nat} {xs : List Value} (h : w.ownsRow B 63 2 (.slice (some ⟨g, 0, none⟩) m cap) m xs) : m ≤ cap := by
  rcases h.2 with ⟨e, -⟩ | ⟨g', cap', cur, e, a1, a2, a3, a4, a5, a6⟩
  · cases e
  · simp only [Value.slice.injEq, Option.some.injEq, Addr.mk.injEq] at e
    obtain ⟨⟨rfl, -⟩, -, rfl⟩ := e
    exact a3

set_option maxHeartbeats 4000000 in
set_option maxRecDepth 100000 in
theorem normal_any (X nl rn : Nat) (ra : Option Addr) (w : World) (hn : rn ≤ 65536) (hr : RoutesAt w X nl ra rn) :
    Calls Try.prog 21 #[.slice ra rn rn] w fun e w' => NormPost w e w' := by
  obtain ⟨i63, hi63, hz63, hs63, hb63⟩ := info_parts info63'
  have HR := Lib.hid hr
  clear hr
  go_enter Try.func21, Try.ntmps21
  go_wp2
  go_loopw [3, 8] (fun s3 i wr => ∃ k m : Nat, k ≤ rn ∧ i = .int .i64 k ∧ m ≤ k ∧ Hid (NR wr w.heap.size s3 m) ∧ Below w.heap.size w wr) (fun _ i _ => rn - (intOf i).toNat)
  case atStart => exact ⟨0, 0, Nat.zero_le _, rfl, Nat.le_refl _, Or.inl ⟨rfl, rfl⟩, Below.refl _ _⟩
  case round =>
    obtain ⟨k, m, hk, rfl, hmk, HN, hbr⟩ := hrel
    obtain ⟨wo, rfl⟩ : ∃ wo : World, wo = wr := ⟨_, rfl⟩
    by_cases hlt : k < rn
    · obtain ⟨rb, rfl, -, hcs⟩ := (HR.out.same (Same.below hbr (Nat.le_refl _))).resolve_left (by omega)
      obtain ⟨lk, idx, cost, q1, q2, -, -, -⟩ := hcs k hlt
      clear hcs
      have hws := hbr.size
      rcases HN.out with ⟨rfl, rfl⟩ | ⟨hm1, g, cap, xs, c, rfl, hown, hx1⟩
      · go_wp2
        go_quiet (fail)
        generalize hwq : (wo.alloc (.cells #[.pointer (some ⟨lk, 0, none⟩), .int .i64 cost] 63)).drewN _ = wq
        have p0 : wq.cell? ⟨wo.heap.size, 0, none⟩ = some (.pointer (some ⟨lk, 0, none⟩)) := by rw [← hwq]; exact cell_new rfl
        have p1 : wq.cell? ⟨wo.heap.size, 1, none⟩ = some (.int .i64 cost) := by rw [← hwq]; exact cell_new rfl
        have hbq : Below w.heap.size w wq := by rw [← hwq]; exact below_drewN (hbr.alloc hws _)
        have hoq : Below wo.heap.size wo wq := by rw [← hwq]; exact below_drewN ((Below.refl _ _).alloc (Nat.le_refl _) _)
        have hqs : wo.heap.size < wq.heap.size := World.block_lt_of_cell? _ _ p1
        have hqs2 := hbq.size
        clear hwq
        go_wp2_with fail
        go_region_held3 (fun w' => w'.cell? ⟨wo.heap.size, 0, none⟩ = some (.pointer (some ⟨lk, 0, none⟩)) ∧ w'.cell? ⟨wo.heap.size, 1, none⟩ = some (.int .i64 cost)) (first | exact ⟨trivial, trivial⟩ | go_keep | exact ⟨alloc_cell p0, alloc_cell p1⟩ | exact ⟨hgrow.cell (alloc_cell p0) (by simp [Value.ownBlock]), hgrow.cell (alloc_cell p1) (by simp [Value.ownBlock])⟩)
          ((refine step_append_lies _ (by rfl) _ _ _ (by rfl) w.heap.size 63 i63 _ 2 16 Try.underlying37 hi63 hz63 hs63 hb63 rfl (by omega) (.slice none 0 0) 0 [] (by rfl) (World.ownsRow_nil _ _ _ _) ⟨wq.heap.size, 0, none⟩ 1 1 [.pointer (some ⟨lk, 0, none⟩), .int .i64 cost] (by rfl) (by rfl) (World.news_of_block (cs := #[.pointer (some ⟨lk, 0, none⟩), .int .i64 cost]) (t := 63) (fr := (0, 0)) (heap_alloc_new wq _)) (by simp [Value.oneCell']) (by omega) (by unfold maxLen; omega) (by omega) (by simp; omega) (wq.heap.size + 1) (by simp) ?_; intro g1 cap1 w1 hown1 hgrow hat hlt1))
        have hbw : Below w.heap.size w w1 := ((hbq.alloc hqs2 _).drew).grown hgrow (by simp; omega) (by simp [Value.ownBlock])
        go_wp2
        go_roundw
        case rel => exact ⟨k + 1, 1, by omega, by go_num, by omega, Or.inr ⟨Nat.le_refl _, g1, cap1, _, cost, rfl, hown1, rfl⟩, hbw⟩
        case measure => simp [intOf]; omega
      · have hgl := (hown.lt g rfl)
        have hc1 : wo.cell? ⟨g, 1, none⟩ = some (.int .i64 c) := by have := hown.cells (g := g) rfl 1 _ hx1; rwa [Addr.add_lit, Nat.zero_add] at this
        have hcap := own_cap hown
        have hm0 : ((m : Int) == 0) = false := by simp; omega
        have i1 : (0 : Int) < (m : Int) := by omega
        have hmd : decide ((m : Int) = 0) = false := decide_eq_false (by omega)
        by_cases hcc : cost < c
        · go_wp2
          go_quiet (fail)
          generalize hwq : (wo.alloc (.cells #[.pointer (some ⟨lk, 0, none⟩), .int .i64 cost] 63)).drewN _ = wq
          have p0 : wq.cell? ⟨wo.heap.size, 0, none⟩ = some (.pointer (some ⟨lk, 0, none⟩)) := by rw [← hwq]; exact cell_new rfl
          have p1 : wq.cell? ⟨wo.heap.size, 1, none⟩ = some (.int .i64 cost) := by rw [← hwq]; exact cell_new rfl
          have hbq : Below w.heap.size w wq := by rw [← hwq]; exact below_drewN (hbr.alloc hws _)
          have hoq : Below wo.heap.size wo wq := by rw [← hwq]; exact below_drewN ((Below.refl _ _).alloc (Nat.le_refl _) _)
          have hqs : wo.heap.size < wq.heap.size := World.block_lt_of_cell? _ _ p1
          have hqs2 := hbq.size
          clear hwq
          have hownq := own_head (own_below2 hown hoq)
          go_wp2_with fail
          go_region_held3 (fun w' => w'.cell? ⟨wo.heap.size, 0, none⟩ = some (.pointer (some ⟨lk, 0, none⟩)) ∧ w'.cell? ⟨wo.heap.size, 1, none⟩ = some (.int .i64 cost)) (first | exact ⟨trivial, trivial⟩ | go_keep | exact ⟨alloc_cell p0, alloc_cell p1⟩ | exact ⟨hgrow.cell (alloc_cell p0) (by simp [Value.ownBlock]; omega), hgrow.cell (alloc_cell p1) (by simp [Value.ownBlock]; omega)⟩)
            ((refine step_append_lies _ (by rfl) _ _ _ (by rfl) w.heap.size 63 i63 _ 2 16 Try.underlying37 hi63 hz63 hs63 hb63 rfl (by omega) (.slice (some ⟨g, 0, none⟩) 0 cap) 0 [] (by rfl) ((hownq.alloc _).drew) ⟨wq.heap.size, 0, none⟩ 1 1 [.pointer (some ⟨lk, 0, none⟩), .int .i64 cost] (by rfl) (by rfl) (World.news_of_block (cs := #[.pointer (some ⟨lk, 0, none⟩), .int .i64 cost]) (t := 63) (fr := (0, 0)) (heap_alloc_new wq _)) (by simp [Value.oneCell']) (by omega) (by unfold maxLen; omega) (by omega) (by simp; omega) (wq.heap.size + 1) (by simp) ?_; intro g1 cap1 w1 hown1 hgrow hat hlt1))
          have hbw : Below w.heap.size w w1 := ((hbq.alloc hqs2 _).drew).grown hgrow (by simp; omega) (fun k hk => by cases hk; exact hgl.1)
          go_wp2
          go_roundw
          case rel => exact ⟨k + 1, 1, by omega, by go_num, by omega, Or.inr ⟨Nat.le_refl _, g1, cap1, _, cost, rfl, hown1, rfl⟩, hbw⟩
          case measure => simp [intOf]; omega
        · by_cases hce : cost = c
          · subst hce
            have he : (cost == cost) = true := by simp
            go_wp2
            go_quiet (fail)
            generalize hwq : (wo.alloc (.cells #[.pointer (some ⟨lk, 0, none⟩), .int .i64 cost] 63)).drewN _ = wq
            have p0 : wq.cell? ⟨wo.heap.size, 0, none⟩ = some (.pointer (some ⟨lk, 0, none⟩)) := by rw [← hwq]; exact cell_new rfl
            have p1 : wq.cell? ⟨wo.heap.size, 1, none⟩ = some (.int .i64 cost) := by rw [← hwq]; exact cell_new rfl
            have hbq : Below w.heap.size w wq := by rw [← hwq]; exact below_drewN (hbr.alloc hws _)
            have hoq : Below wo.heap.size wo wq := by rw [← hwq]; exact below_drewN ((Below.refl _ _).alloc (Nat.le_refl _) _)
            have hqs : wo.heap.size < wq.heap.size := World.block_lt_of_cell? _ _ p1
            have hqs2 := hbq.size
            clear hwq
            have hownq := own_below2 hown hoq
            have hcq : wq.cell? ⟨g, 1, none⟩ = some (.int .i64 cost) := below_cells hoq (Nat.le_refl _) _ _ hc1
            go_wp2
            go_quiet (fail)
            generalize hwr : wq.drewN _ = wr
            have r0 : wr.cell? ⟨wo.heap.size, 0, none⟩ = some (.pointer (some ⟨lk, 0, none⟩)) := by rw [← hwr]; exact p0
            have r1 : wr.cell? ⟨wo.heap.size, 1, none⟩ = some (.int .i64 cost) := by rw [← hwr]; exact p1
            have hownr : wr.ownsRow w.heap.size 63 2 (.slice (some ⟨g, 0, none⟩) m cap) m xs := by rw [← hwr]; exact hownq
            have hbr2 : Below w.heap.size w wr := by rw [← hwr]; exact below_drewN hbq
            have hrs2 := hbr2.size
            have hrs : wo.heap.size < wr.heap.size := World.block_lt_of_cell? _ _ r1
            clear hwr
            go_wp2_with (at_builtin; refine wpList_append_lies _ (by rfl) _ _ _ (by rfl) w.heap.size 63 i63 _ 2 16 Try.underlying37 hi63 hz63 hs63 hb63 rfl (by omega) (.slice (some ⟨g, 0, none⟩) m cap) m xs (by rfl) (hownr.alloc _) ⟨wr.heap.size, 0, none⟩ 1 1 [.pointer (some ⟨lk, 0, none⟩), .int .i64 cost] (by rfl) (by rfl) (World.news_of_block (cs := #[.pointer (some ⟨lk, 0, none⟩), .int .i64 cost]) (t := 63) (fr := (0, 0)) (heap_alloc_new wr _)) (by simp [Value.oneCell']) (by omega) (by unfold maxLen; omega) (by omega) (by simp; omega) (wr.heap.size + 1) (by simp) ?_; intro g1 cap1 w1 hown1 hgrow hat hlt1)
            have hbw : Below w.heap.size w w1 := (hbr2.alloc hrs2 _).grown hgrow (by simp; omega) (fun k hk => by cases hk; exact hgl.1)
            go_roundw
            case rel => exact ⟨k + 1, m + 1, by omega, by go_num, by omega, Or.inr ⟨by omega, g1, cap1, _, cost, rfl, hown1, by rw [List.getElem?_append_left (by have := (List.getElem?_eq_some_iff.1 hx1).1; omega)]; exact hx1⟩, hbw⟩
            case measure => simp [intOf]; omega
          · have he : (cost == c) = false := by simp [hce]
            have hcd : decide (cost = c) = false := decide_eq_false hce
            go_wp2
            go_quiet (fail)
            generalize hwq : (wo.alloc (.cells #[.pointer (some ⟨lk, 0, none⟩), .int .i64 cost] 63)).drewN _ = wq
            have p0 : wq.cell? ⟨wo.heap.size, 0, none⟩ = some (.pointer (some ⟨lk, 0, none⟩)) := by rw [← hwq]; exact cell_new rfl
            have p1 : wq.cell? ⟨wo.heap.size, 1, none⟩ = some (.int .i64 cost) := by rw [← hwq]; exact cell_new rfl
            have hbq : Below w.heap.size w wq := by rw [← hwq]; exact below_drewN (hbr.alloc hws _)
            have hoq : Below wo.heap.size wo wq := by rw [← hwq]; exact below_drewN ((Below.refl _ _).alloc (Nat.le_refl _) _)
            have hqs : wo.heap.size < wq.heap.size := World.block_lt_of_cell? _ _ p1
            have hqs2 := hbq.size
            clear hwq
            have hownq := own_below2 hown hoq
            have hcq : wq.cell? ⟨g, 1, none⟩ = some (.int .i64 c) := below_cells hoq (Nat.le_refl _) _ _ hc1
            go_wp2
            go_quiet (fail)
            go_wp2
            go_roundw
            case rel => exact ⟨k + 1, m, by omega, by go_num, by omega, Or.inr ⟨hm1, g, cap, xs, c, rfl, hownq, hx1⟩, below_drewN hbq⟩
            case measure => simp [intOf]; omega
    · obtain rfl : rn = k := by omega
      go_wp2
      go_ret
      exact ⟨_, _, rfl, HN.out, hbr⟩
end Go.Proofs.Qxb6613577a
