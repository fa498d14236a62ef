import Derived.Test.YbulkcwciFmtLeaf2
namespace Go.Proofs.YbulkcwciFmt
open Go.RowKit Go.Deep
attribute [local go_sem ↓] Go.wp_at_zero Go.wp_at_succ

theorem meth_end (a : Addr) (w : World) : (method 66 46 (.pointer (some a)) "End").run Ybaf.prog w = .ok (50, .pointer (some a)) w := by kernel_rfl
theorem meth_meet (a : Addr) (w : World) : (method 66 46 (.pointer (some a)) "Meet").run Ybaf.prog w = .ok (54, .pointer (some a)) w := by kernel_rfl
theorem meth_stuck (a : Addr) (w : World) : (method 66 46 (.pointer (some a)) "Stuck").run Ybaf.prog w = .ok (56, .pointer (some a)) w := by kernel_rfl
theorem meth_assign (a : Addr) (w : World) : (method 66 46 (.pointer (some a)) "Assign").run Ybaf.prog w = .ok (49, .pointer (some a)) w := by kernel_rfl
theorem meth_when (a : Addr) (w : World) : (method 66 46 (.pointer (some a)) "When").run Ybaf.prog w = .ok (57, .pointer (some a)) w := by kernel_rfl
theorem meth_none (a : Addr) (w : World) : (method 66 46 (.pointer (some a)) "None").run Ybaf.prog w = .ok (55, .pointer (some a)) w := by kernel_rfl
theorem meth_guard (a : Addr) (w : World) : (method 66 46 (.pointer (some a)) "Guard").run Ybaf.prog w = .ok (53, .pointer (some a)) w := by kernel_rfl
theorem meth_always (a : Addr) (w : World) : (method 66 46 (.pointer (some a)) "Always").run Ybaf.prog w = .ok (48, .pointer (some a)) w := by kernel_rfl

/-- An edge, as it lies in the memory that the step does not write. -/
def EdgeAt (c : Cfg) (eb eo : Nat) (op : Nat) (tg : Int) (keep : Bool) : Prop :=
  eb < c.w0.heap.size ∧ eb ≠ c.xb ∧ eb ≠ c.wb ∧ c.w0.cell? ⟨eb, eo, none⟩ = some (.int .i64 op) ∧ c.w0.cell? ⟨eb, eo + 6, none⟩ = some (.int .i64 tg) ∧ c.w0.cell? ⟨eb, eo + 7, none⟩ = some (.bool keep)

theorem Fr.cell {c : Cfg} {a b : World} (h : Fr c a b) {i j : Nat} {v : Value} (hi : i < a.heap.size) (hx : i ≠ c.xb) (hw : i ≠ c.wb) (hc : a.cell? ⟨i, j, none⟩ = some v) : b.cell? ⟨i, j, none⟩ = some v :=
  (World.cell?_of_block (w := a) (h.2.2.2.2 i hi hx hw)).trans hc
theorem St.fr {c : Cfg} {k ends : Nat} {log : List Int} {cv ov : Value} {cs os : List Bool} {w : World} (h : St c k ends log cv cs ov os w) : Fr c c.w0 w := by
  obtain ⟨lv, h⟩ := h
  exact h.1
theorem St.wbk {c : Cfg} {k ends : Nat} {log : List Int} {cv ov : Value} {cs os : List Bool} {w : World} (h : St c k ends log cv cs ov os w) : WB c cv ov w := by
  obtain ⟨lv, h⟩ := h
  exact h.2.2.2.1

set_option maxRecDepth 100000 in
theorem reaches_any (a b : Value) (w : World) : Calls Ybaf.prog 29 #[a, b, .int .i64 (-1)] w fun e w' => e = .returned (.bool false) ∧ w' = w := by
  go_enter Ybaf.func29, Ybaf.ntmps29
  go_wp2
  go_ret
  exact ⟨rfl, rfl⟩

def nextLog (keep : Bool) (tg : Int) : List Int := if keep then [3, tg] else [1, tg]
def nextEnds (keep : Bool) (ends : Nat) : Nat := if keep then ends else ends + 1
def nextErr (c : Cfg) (keep : Bool) (ends : Nat) : Value := if keep then .nilIface else endErr c ends

set_option maxHeartbeats 1000000 in
set_option maxRecDepth 100000 in
theorem next_any {c : Cfg} {k ends : Nat} {log : List Int} {cv ov : Value} {cs os : List Bool} {w : World} {eb eo op : Nat} {tg : Int} {keep : Bool} (h : St c k ends log cv cs ov os w) (hl : log.length ≤ 1000000) (he : ends ≤ 1000000) (ed : EdgeAt c eb eo op tg keep) :
    Calls Ybaf.prog 25 #[.pointer (some ⟨c.wb, 0, none⟩), .pointer (some ⟨eb, eo, none⟩), .int .i64 (-1)] w fun e w' => LogEnd c (nextErr c keep ends) k (nextEnds keep ends) (log ++ nextLog keep tg) cv cs ov os e w' := by
  obtain ⟨e1, e2, e3, e4, e5, e6⟩ := ed
  have y6 := h.fr.cell e1 e2 e3 e5
  have y7 := h.fr.cell e1 e2 e3 e6
  have y0 : w.cell? ⟨c.wb, 0, none⟩ = some (.iface 46 (.pointer (some ⟨c.xb, 0, none⟩))) := by simpa using cell_of h.wbk 0
  have HS : Hid (St c k ends log cv cs ov os w) := h
  have E5 : Hid (c.w0.cell? ⟨eb, eo + 6, none⟩ = some (.int .i64 tg)) := e5
  have m1 := meth_end
  have m2 := meth_meet
  clear h e4 e5 e6
  cases keep
  · go_enter Ybaf.func25, Ybaf.ntmps25
    go_wp2_with fail
    go_region_held3 (fun w' => w'.cell? ⟨c.wb, 0, none⟩ = some (.iface 46 (.pointer (some ⟨c.xb, 0, none⟩))) ∧ w'.cell? ⟨eb, eo + 6, none⟩ = some (.int .i64 tg)) (go_keep)
      (first | (go_at_call 50; refine (end_any _ tg (St.below HS.out (by exact ⟨rfl, rfl, rfl, Nat.le_refl _, fun _ _ => rfl⟩)) hl he).mono ?_; rintro e w1 ⟨rfl, hs1⟩; have z0 : w1.cell? ⟨c.wb, 0, none⟩ = some (.iface 46 (.pointer (some ⟨c.xb, 0, none⟩))) := (by simpa using cell_of hs1.wbk 0); have z6 := hs1.fr.cell e1 e2 e3 E5.out))
    all_goals (go_wp2; go_ret; exact ⟨rfl, by assumption⟩)
  · go_enter Ybaf.func25, Ybaf.ntmps25
    go_wp2_with fail
    refine (meet_any eb eo tg HS.out hl e1 y6).mono ?_
    rintro e w1 ⟨rfl, hs1⟩
    have H1 : Hid (St c k ends (log ++ [3, tg]) cv cs ov os w1) := hs1
    clear hs1
    go_wp2_with fail
    refine (reaches_any _ _ w1).mono ?_
    rintro e w2 ⟨rfl, hw⟩
    subst hw
    go_wp2
    go_ret
    exact ⟨rfl, H1.out⟩

/-- The three boxes that a closure of take or From captures: w, e, at. -/
def Boxes (c : Cfg) (b1 b2 b3 eb eo : Nat) (w : World) : Prop :=
  w.heap[b1]? = some (.cells #[.pointer (some ⟨c.wb, 0, none⟩)] 53 (0, 0)) ∧ w.heap[b2]? = some (.cells #[.pointer (some ⟨eb, eo, none⟩)] 81 (0, 0)) ∧ w.heap[b3]? = some (.cells #[.int .i64 (-1)] 3 (0, 0))

set_option maxRecDepth 100000 in
theorem close24_any {c : Cfg} {k ends : Nat} {log : List Int} {cv ov : Value} {cs os : List Bool} {w : World} {eb eo op b1 b2 b3 : Nat} {tg : Int} {keep : Bool} (h : St c k ends log cv cs ov os w) (hl : log.length ≤ 1000000) (he : ends ≤ 1000000) (ed : EdgeAt c eb eo op tg keep) (bx : Boxes c b1 b2 b3 eb eo w) :
    Calls Ybaf.prog 24 #[.pointer (some ⟨b1, 0, none⟩), .pointer (some ⟨b2, 0, none⟩), .pointer (some ⟨b3, 0, none⟩)] w fun e w' => LogEnd c (nextErr c keep ends) k (nextEnds keep ends) (log ++ nextLog keep tg) cv cs ov os e w' := by
  obtain ⟨x1, x2, x3⟩ := bx
  have y1 := cell_of_one x1
  have y2 := cell_of_one x2
  have y3 := cell_of_one x3
  have HS : Hid (St c k ends log cv cs ov os w) := h
  have HE : Hid (EdgeAt c eb eo op tg keep) := ed
  clear h ed x1 x2 x3
  go_enter Ybaf.func24, Ybaf.ntmps24
  go_wp2_with fail
  refine (next_any HS.out hl he HE.out).mono ?_
  rintro e w1 ⟨rfl, hs1⟩
  go_wp2
  go_ret
  exact ⟨rfl, hs1⟩

theorem Boxes.setX {c : Cfg} {b1 b2 b3 eb eo k ends : Nat} {lv : Value} {w : World} (h : Boxes c b1 b2 b3 eb eo w) (hx : XB c k ends lv w) (j : Nat) (v : Value) : Boxes c b1 b2 b3 eb eo (w.setCell ⟨c.xb, j, none⟩ v) := by
  have hx' : w.heap[c.xb]? = some (.cells #[c.gs, .int .i64 k, .int .i64 c.fail, .int .i64 ends, lv, c.er] 48 (0, 0)) := hx
  have n1 : b1 ≠ c.xb := fun e => by rw [e] at h; have := h.1; rw [hx'] at this; simp at this
  have n2 : b2 ≠ c.xb := fun e => by rw [e] at h; have := h.2.1; rw [hx'] at this; simp at this
  have n3 : b3 ≠ c.xb := fun e => by rw [e] at h; have := h.2.2; rw [hx'] at this; simp at this
  exact ⟨(Below.heap_setCell _ _ _ _ n1).trans h.1, (Below.heap_setCell _ _ _ _ n2).trans h.2.1, (Below.heap_setCell _ _ _ _ n3).trans h.2.2⟩
end Go.Proofs.YbulkcwciFmt
