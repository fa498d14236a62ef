import Derived.Test.YbulkcwciFmtLeaf
import Derived.Deep.RegionLaw
namespace Go.Proofs.YbulkcwciFmt
open Go.RowKit Go.Deep
attribute [local go_sem ↓] Go.wp_at_zero Go.wp_at_succ

theorem own_push {w w' : World} {base e n : Nat} {v : Value} {xs : List Value} (h : w.ownsRow base e 1 v n xs) (o : Obj) (hp : w'.heap = w.heap.push o) : w'.ownsRow base e 1 v n xs :=
  own_of h fun i _ hi _ => by rw [hp, Array.getElem?_push, if_neg (by omega)]
theorem news_push {w w' : World} (a b : Int) (hp : w'.heap = w.heap.push (.cells #[.int .i64 a, .int .i64 b] 3)) : ∀ j u, (ints [a, b])[j]? = some u → w'.cell? ((⟨w.heap.size, 0, none⟩ : Addr).add j) = some u :=
  World.news_of_block (cs := #[.int .i64 a, .int .i64 b]) (t := 3) (fr := (0, 0)) (by rw [hp]; simp)

theorem frozen_old {w : World} {a : Addr} (o : Obj) (hlt : a.block < w.heap.size) (h : w.frozen? a = false) : (w.alloc o).frozen? a = false :=
  (World.frozen?_of_block (w := w) (Below.heap_alloc _ _ _ hlt)).trans h

def endErr (c : Cfg) (ends : Nat) : Value := if ends = c.fail then c.er else .nilIface

set_option maxHeartbeats 1000000 in
set_option maxRecDepth 100000 in
theorem end_any {c : Cfg} {k ends : Nat} {log : List Int} {cv ov : Value} {cs os : List Bool} {w : World} (ev : Value) (loc : Int) (h : St c k ends log cv cs ov os w) (hl : log.length ≤ 1000000) (he : ends ≤ 1000000) :
    Calls Ybaf.prog 50 #[.pointer (some ⟨c.xb, 0, none⟩), ev, .int .i64 loc] w fun e w' => LogEnd c (endErr c ends) k (ends + 1) (log ++ [1, loc]) cv cs ov os e w' := by
  obtain ⟨i0, hi, hz0, hz1, hz2⟩ := info_parts Ybaf.info3
  obtain ⟨lv, hs⟩ := h
  have x4 := cell_of hs.2.2.1 4
  have f4 := free_of hs.2.2.1 4
  have xl := hs.lt.1
  have sz := hs.1.2.2.2.1
  simp at x4
  have HS : Hid (StL c k ends log lv cv cs ov os w) := hs
  clear hs
  go_enter Ybaf.func50, Ybaf.ntmps50
  go_wp2_with (at_builtin; refine wpList_append_lies _ rfl _ _ 31 rfl c.w0.heap.size 3 i0 (.int .i64 0) 1 8 Ybaf.underlying31 hi hz0 hz1 hz2 rfl (by omega) lv log.length (ints log) rfl ((HS.out.2.2.2.2.1).alloc _) ⟨w.heap.size, 0, none⟩ 2 2 (ints [1, loc]) rfl rfl (news2 w 1 loc) (ints_one _) (by omega) (by unfold maxLen; omega) (by omega) (by simp; omega) _ rfl ?_)
  intro g cap w1 hown hgrow hat hlt
  have hx := (HS.out.alloc _).grown_xb hgrow
  have y4 := cell_of hx 4
  have g4 := free_of hx 4
  have y3 := cell_of hx 3
  have g3 := free_of hx 3
  have y2 := cell_of hx 2
  have y5 := cell_of hx 5
  simp at y4 y3 y2 y5
  have HN : Hid (StL c k ends (log ++ [1, loc]) (.slice (some ⟨g, 0, none⟩) (log.length + 2) cap) cv cs ov os (w1.setCell ⟨c.xb, 4, none⟩ (.slice (some ⟨g, 0, none⟩) (log.length + 2) cap))) := (HS.out.alloc _).setLog (news := [1, loc]) hgrow hown
  clear hown hgrow hat hlt hx x4 f4
  by_cases hf : ends = c.fail
  · subst hf
    go_wp2_with fail
    go_quiet (fail)
    go_wp2
    go_ret
    rw [show endErr c c.fail = c.er from if_pos rfl]
    exact ⟨rfl, _, (HN.out.setEnds (k' := c.fail + 1)).same rfl rfl rfl rfl⟩
  · have hb : ((ends : Int) == (c.fail : Int)) = false := by
      rw [beq_eq_false_iff_ne]
      intro e
      exact hf (Int.ofNat.inj e)
    go_wp2_with fail
    go_quiet (fail)
    go_wp2
    go_ret
    rw [show endErr c ends = .nilIface from if_neg hf]
    exact ⟨rfl, _, (HN.out.setEnds (k' := ends + 1)).same rfl rfl rfl rfl⟩

set_option maxHeartbeats 1000000 in
set_option maxRecDepth 100000 in
theorem meet_any {c : Cfg} {k ends : Nat} {log : List Int} {cv ov : Value} {cs os : List Bool} {w : World} (eb eo : Nat) (tg : Int) (h : St c k ends log cv cs ov os w) (hl : log.length ≤ 1000000) (heb : eb < c.w0.heap.size) (ht : w.cell? ⟨eb, eo + 6, none⟩ = some (.int .i64 tg)) :
    Calls Ybaf.prog 54 #[.pointer (some ⟨c.xb, 0, none⟩), .pointer (some ⟨eb, eo, none⟩)] w fun e w' => LogEnd c (.tuple #[.int .i64 0, .bool false, .nilIface]) k ends (log ++ [3, tg]) cv cs ov os e w' := by
  obtain ⟨i0, hi, hz0, hz1, hz2⟩ := info_parts Ybaf.info3
  obtain ⟨lv, hs⟩ := h
  have x4 := cell_of hs.2.2.1 4
  have f4 := free_of hs.2.2.1 4
  have xl := hs.lt.1
  have sz := hs.1.2.2.2.1
  have HO : Hid (∀ i, i < c.w0.heap.size → some i ≠ lv.ownBlock) := fun i hi e => by have := (hs.2.2.2.2.1).lt i e.symm; omega
  simp at x4
  have HS : Hid (StL c k ends log lv cv cs ov os w) := hs
  have HX : Hid (c.xb < c.w0.heap.size) := hs.2.1.1
  clear hs
  go_enter Ybaf.func54, Ybaf.ntmps54
  go_wp2_with fail
  go_region_law ((refine step_append_lies _ (by rfl) _ _ 31 (by rfl) c.w0.heap.size 3 i0 (.int .i64 0) 1 8 Ybaf.underlying31 hi hz0 hz1 hz2 rfl (by omega) lv log.length (ints log) (by rfl) (own_push (HS.out.2.2.2.2.1) _ (by rfl)) ⟨w.heap.size, 0, none⟩ 2 2 (ints [3, tg]) (by rfl) rfl (news_push (w := w) 3 tg (by rfl)) (ints_one _) (by omega) (by unfold maxLen; omega) (by omega) (by simp; omega) _ rfl ?_; intro g cap w1 hown hgrow hat hlt; have g4 : w1.frozen? ⟨c.xb, 4, none⟩ = false := free_of (StL.grown_xb (h := by exact (HS.out.alloc (.cells #[.int .i64 3, .int .i64 tg] 3)).same rfl rfl rfl rfl) hgrow) 4; have y4 : w1.cell? ⟨c.xb, 4, none⟩ = some lv := by { have := cell_of (StL.grown_xb (h := by exact (HS.out.alloc (.cells #[.int .i64 3, .int .i64 tg] 3)).same rfl rfl rfl rfl) hgrow) 4; simpa using this }; have y6 : w1.cell? ⟨eb, eo + 6, none⟩ = some (.int .i64 tg) := by { rw [hgrow.cell_far _ (by simp; omega) (HO.out _ heb)]; exact (((Below.refl w.heap.size w).alloc (Nat.le_refl _) _).cell (p := ⟨eb, eo + 6, none⟩) (by show eb < w.heap.size; omega)).trans ht }; have HN : Hid (StL c k ends (log ++ [3, tg]) (.slice (some ⟨g, 0, none⟩) (log.length + 2) cap) cv cs ov os (w1.setCell ⟨c.xb, 4, none⟩ (.slice (some ⟨g, 0, none⟩) (log.length + 2) cap))) := StL.setLog (h := by exact (HS.out.alloc (.cells #[.int .i64 3, .int .i64 tg] 3)).same rfl rfl rfl rfl) (news := [3, tg]) hgrow hown; clear hown hgrow))
  all_goals (go_wp2; go_ret3; exact ⟨rfl, _, HN.out.same rfl rfl rfl rfl⟩)
end Go.Proofs.YbulkcwciFmt
