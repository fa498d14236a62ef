import Derived.Test.YbulkcwciFmtFrom2
import Derived.Test.YbulkcwciFmtSmall
namespace Go.Proofs.YbulkcwciFmt
open Go.RowKit Go.Deep Go.Extern.Stop Go.Stop Go.Extern
attribute [local go_sem ↓] Go.wp_at_zero Go.wp_at_succ

theorem EdgesAt.refr {c : Cfg} {E : Eds} {ea : Option Addr} (h : EdgesAt c E ea) {W : World} (b : Fr c c.w0 W) : EdgesAt (c.rebase W) E ea := by
  refine ⟨h.1, fun h0 => ?_⟩
  obtain ⟨eb, e, hall⟩ := h.2 h0
  refine ⟨eb, e, fun j hj => ?_⟩
  obtain ⟨⟨e1, e2, e3, e4, e5, e6⟩, p1, p2, hol, hob, ob, p5, q1, q2, q3, q4⟩ := hall j hj
  have sz := b.2.2.2.1
  exact ⟨⟨Nat.lt_of_lt_of_le e1 sz, e2, e3, b.cell e1 e2 e3 e4, b.cell e1 e2 e3 e5, b.cell e1 e2 e3 e6⟩, b.cell e1 e2 e3 p1, b.cell e1 e2 e3 p2, hol, hob, ob, b.cell e1 e2 e3 p5, Nat.lt_of_lt_of_le q1 sz, q2, q3, fun m hm => b.cell q1 q2 q3 (q4 m hm)⟩
theorem GuardsAt.refr {c : Cfg} {GA : Option Addr} {gl gc : Nat} {G : Nat → Bool} (h : GuardsAt c GA gl gc G) {W : World} (b : Fr c c.w0 W) : GuardsAt (c.rebase W) GA gl gc G := by
  refine ⟨h.1, h.2.1, fun h0 => ?_⟩
  obtain ⟨bb, o, e, hb, hx, hw, hc⟩ := h.2.2 h0
  exact ⟨bb, o, e, Nat.lt_of_lt_of_le hb b.2.2.2.1, hx, hw, fun j hj => b.cell hb hx hw (hc j hj)⟩
theorem GraphAt.refr {c : Cfg} {loc : Nat} {ea : Option Addr} {n ec : Nat} (h : GraphAt c loc ea n ec) {W : World} (b : Fr c c.w0 W) : GraphAt (c.rebase W) loc ea n ec := by
  obtain ⟨g1, g2, g3, lb, nl, lc, l1, l2, l3, hll, hnl, cg, cl⟩ := h
  have sz := b.2.2.2.1
  exact ⟨Nat.lt_of_lt_of_le g1 sz, g2, g3, lb, nl, lc, Nat.lt_of_lt_of_le l1 sz, l2, l3, hll, hnl, b.cell g1 g2 g3 cg, b.cell l1 l2 l3 cl⟩

/-- The world in which Step calls From. -/
def WS (c : Cfg) : World := ((c.w0.setCell ⟨c.wb, 1, none⟩ (.pointer (some ⟨c.gb, 0, none⟩))).setCell ⟨c.wb, 2, none⟩ (.slice none 0 0)).setCell ⟨c.wb, 4, none⟩ (.slice none 0 0)
theorem frS (c : Cfg) : Fr c c.w0 (WS c) := ((Fr.setW c _ 1 _).trans (Fr.setW c _ 2 _)).trans (Fr.setW c _ 4 _)

def StepEnd (c : Cfg) (E : Eds) (gl : Nat) (G : Nat → Bool) (e : Ending) (w' : World) : Prop := ∃ W, Fr c c.w0 W ∧ FromEnd (c.rebase W) E gl G e w'

set_option maxHeartbeats 4000000 in
set_option maxRecDepth 100000 in
theorem step_any (F : Interp) (c : Cfg) (loc : Nat) (E : Eds) (ea : Option Addr) (ec : Nat) (GA : Option Addr) (gl gc : Nat) (G : Nat → Bool) (sa : Addr) (her : c.er = .iface 62 (.pointer (some sa)))
    (hxw : c.xb < c.w0.heap.size ∧ c.wb < c.w0.heap.size ∧ c.xb ≠ c.wb) (hx : XB c 0 0 (.slice none 0 0) c.w0) (hw : c.w0.heap[c.wb]? = some (.cells (walker0 c.xb) 69 (0, 0)))
    (hF : F.answers c.w0.tape) (hgr : GraphAt c loc ea E.n ec) (hE : EdgesAt c E ea) (hG : GuardsAt c GA gl gc G) (hop : ∀ j, j < E.n → E.op j ≤ 3 ∨ E.op j = 7) :
    Calls Ybaf.prog 9 #[.pointer (some ⟨c.wb, 0, none⟩), .pointer (some ⟨c.gb, 0, none⟩), .int .i64 loc] c.w0 fun e w' => StepEnd c E gl G e w' := by
  have fr := frS c
  have hfr : Fresh (c.rebase (WS c)) := by
    refine ⟨⟨Nat.lt_of_lt_of_le hxw.1 fr.2.2.2.1, Nat.lt_of_lt_of_le hxw.2.1 fr.2.2.2.1, hxw.2.2⟩, ?_, ?_⟩
    · exact ((Below.heap_setCell _ _ _ _ hxw.2.2).trans ((Below.heap_setCell _ _ _ _ hxw.2.2).trans (Below.heap_setCell _ _ _ _ hxw.2.2))).trans hx
    · exact (set_block (set_block (set_block hw))).trans rfl
  have HFR : Hid (Fresh (c.rebase (WS c))) := hfr
  have HE : Hid (EdgesAt (c.rebase (WS c)) E ea) := hE.refr fr
  have HG : Hid (GuardsAt (c.rebase (WS c)) GA gl gc G) := hG.refr fr
  have HGR : Hid (GraphAt (c.rebase (WS c)) loc ea E.n ec) := hgr.refr fr
  have HP : Hid (∀ j, j < E.n → E.op j ≤ 3 ∨ E.op j = 7) := hop
  have HF : Hid (F.answers (WS c).tape) := hF
  have HER : Hid (c.er = .iface 62 (.pointer (some sa))) := her
  have q1 : c.w0.cell? ⟨c.wb, 1, none⟩ = some (.pointer none) := (cell_of hw 1).trans rfl
  have q2 : c.w0.cell? ⟨c.wb, 2, none⟩ = some (.slice none 0 0) := (cell_of hw 2).trans rfl
  have q4 : c.w0.cell? ⟨c.wb, 4, none⟩ = some (.slice none 0 0) := (cell_of hw 4).trans rfl
  have z1 := free_of hw 1
  have z2 := free_of hw 2
  have z4 := free_of hw 4
  clear hfr hE hG hgr hop hF her hx hw fr hxw
  go_enter Ybaf.func9, Ybaf.ntmps9
  go_wp2
  refine wp_loop_rounds 1 ?_
  rw [rounds_succ]
  go_wp2_with fail
  refine (from_any F (c.rebase (WS c)) loc E ea ec GA gl gc G sa HER.out HFR.out HF.out HGR.out HE.out HG.out HP.out).mono ?_
  rintro e w2 ⟨k', ends', log, cv', cs', ov', os', err, rfl, hs, hres⟩
  have H1 : Hid (FromEnd (c.rebase (WF (c.rebase (WS c)) loc (WS c))) E gl G (.returned err) w2) := ⟨k', ends', log, cv', cs', ov', os', err, rfl, hs, hres⟩
  clear hs hres
  go_wp2
  go_ret
  exact ⟨_, (frS c).trans (Fr.of_below (belowF (c.rebase (WS c)) loc (WS c))), H1.out⟩
end Go.Proofs.YbulkcwciFmt
