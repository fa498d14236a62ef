import Derived.Test.YbulkcwciFmtNext
namespace Go.Proofs.YbulkcwciFmt
open Go.RowKit Go.Deep
attribute [local go_sem ↓] Go.wp_at_zero Go.wp_at_succ

set_option maxHeartbeats 2000000 in
set_option maxRecDepth 100000 in
theorem assign_any {c : Cfg} {k ends : Nat} {log : List Int} {lv cv ov : Value} {cs os : List Bool} {w : World} {eb eo op b1 b2 b3 : Nat} {tg : Int} {keep : Bool} (h : StL c k ends log lv cv cs ov os w) (hl : log.length ≤ 999990) (he : ends ≤ 1000000) (ed : EdgeAt c eb eo op tg keep) (bx : Boxes c b1 b2 b3 eb eo w)
    (hb1 : lv.ownBlock ≠ some b1) (hb2 : lv.ownBlock ≠ some b2) (hb3 : lv.ownBlock ≠ some b3) :
    Calls Ybaf.prog 49 #[.pointer (some ⟨c.xb, 0, none⟩), .pointer (some ⟨eb, eo, none⟩), .func (.func 24) #[] #[.pointer (some ⟨b1, 0, none⟩), .pointer (some ⟨b2, 0, none⟩), .pointer (some ⟨b3, 0, none⟩)]] w
      fun e w' => LogEnd c (nextErr c keep ends) k (nextEnds keep ends) (log ++ [2, tg] ++ nextLog keep tg) cv cs ov os e w' := by
  obtain ⟨i0, hi, hz0, hz1, hz2⟩ := info_parts Ybaf.info3
  obtain ⟨x1, x2, x3⟩ := bx
  have l1 := lt_of_block x1
  have l2 := lt_of_block x2
  have l3 := lt_of_block x3
  have heb := ed.1
  have ht := h.1.cell ed.1 ed.2.1 ed.2.2.1 ed.2.2.2.2.1
  have x4 := cell_of h.2.2.1 4
  have f4 := free_of h.2.2.1 4
  have xl := h.lt.1
  have sz := h.1.2.2.2.1
  have HO : Hid (∀ i, i < c.w0.heap.size → some i ≠ lv.ownBlock) := fun i hi e => by have := (h.2.2.2.2.1).lt i e.symm; omega
  have HBX : Hid (∀ (w' w1 : World), Below w.heap.size w w' → w'.grownBy w1 lv.ownBlock → Boxes c b1 b2 b3 eb eo w1) := fun w' w1 hb hg =>
    ⟨(hg.block _ (Nat.lt_of_lt_of_le l1 hb.size) (fun e => hb1 e.symm)).trans ((hb.block _ l1).trans x1), (hg.block _ (Nat.lt_of_lt_of_le l2 hb.size) (fun e => hb2 e.symm)).trans ((hb.block _ l2).trans x2), (hg.block _ (Nat.lt_of_lt_of_le l3 hb.size) (fun e => hb3 e.symm)).trans ((hb.block _ l3).trans x3)⟩
  simp at x4
  have HS : Hid (StL c k ends log lv cv cs ov os w) := h
  have HX : Hid (c.xb < c.w0.heap.size) := h.2.1.1
  have HE : Hid (EdgeAt c eb eo op tg keep) := ed
  clear h ed x1 x2 x3 hb1 hb2 hb3 l1 l2 l3
  go_enter Ybaf.func49, Ybaf.ntmps49
  go_wp2_with fail
  go_region_law ((refine step_append_lies _ (by rfl) _ _ 31 (by rfl) c.w0.heap.size 3 i0 (.int .i64 0) 1 8 Ybaf.underlying31 hi hz0 hz1 hz2 rfl (by omega) lv log.length (ints log) (by rfl) (own_push (HS.out.2.2.2.2.1) _ (by rfl)) ⟨w.heap.size, 0, none⟩ 2 2 (ints [2, tg]) (by rfl) rfl (news_push (w := w) 2 tg (by rfl)) (ints_one _) (by omega) (by unfold maxLen; omega) (by omega) (by simp; omega) _ rfl ?_; intro g cap w1 hown hgrow hat hlt; have g4 : w1.frozen? ⟨c.xb, 4, none⟩ = false := free_of (StL.grown_xb (h := by exact (HS.out.alloc (.cells #[.int .i64 2, .int .i64 tg] 3)).same rfl rfl rfl rfl) hgrow) 4; have y4 : w1.cell? ⟨c.xb, 4, none⟩ = some lv := by { have := cell_of (StL.grown_xb (h := by exact (HS.out.alloc (.cells #[.int .i64 2, .int .i64 tg] 3)).same rfl rfl rfl rfl) hgrow) 4; simpa using this }; have HN : Hid (StL c k ends (log ++ [2, tg]) (.slice (some ⟨g, 0, none⟩) (log.length + 2) cap) cv cs ov os (w1.setCell ⟨c.xb, 4, none⟩ (.slice (some ⟨g, 0, none⟩) (log.length + 2) cap))) := StL.setLog (h := by exact (HS.out.alloc (.cells #[.int .i64 2, .int .i64 tg] 3)).same rfl rfl rfl rfl) (news := [2, tg]) hgrow hown; have HB1 : Hid (Boxes c b1 b2 b3 eb eo (w1.setCell ⟨c.xb, 4, none⟩ (.slice (some ⟨g, 0, none⟩) (log.length + 2) cap))) := (HBX.out _ _ (by exact ((Below.refl w.heap.size w).alloc (Nat.le_refl _) (.cells #[.int .i64 2, .int .i64 tg] 3)).trans ⟨rfl, rfl, rfl, Nat.le_refl _, fun _ _ => rfl⟩) hgrow).setX (StL.grown_xb (h := by exact (HS.out.alloc (.cells #[.int .i64 2, .int .i64 tg] 3)).same rfl rfl rfl rfl) hgrow) 4 _; clear hown hgrow hat hlt))
  all_goals go_wp2_with fail
  all_goals (refine (close24_any (St.below ⟨_, HN.out⟩ (by exact ⟨rfl, rfl, rfl, Nat.le_refl _, fun _ _ => rfl⟩)) (by simp; omega) he HE.out HB1.out).mono ?_; rintro e w2 ⟨rfl, hs2⟩; go_wp2; go_ret; exact ⟨rfl, hs2⟩)
end Go.Proofs.YbulkcwciFmt
