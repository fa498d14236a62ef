import Derived.Test.YbulkcwciFmtAssign
namespace Go.Proofs.YbulkcwciFmt
open Go.RowKit Go.Deep
attribute [local go_sem ↓] Go.wp_at_zero Go.wp_at_succ

def takeLog (op : Nat) (keep : Bool) (tg : Int) : List Int := if op = 2 then [2, tg] ++ nextLog keep tg else nextLog keep tg

def W3 (c : Cfg) (eb eo : Nat) (w : World) : World := ((w.alloc (.cells #[.pointer (some ⟨c.wb, 0, none⟩)] 53)).alloc (.cells #[.pointer (some ⟨eb, eo, none⟩)] 81)).alloc (.cells #[.int .i64 (-1)] 3)
theorem heap3 (c : Cfg) (eb eo : Nat) (w : World) : (W3 c eb eo w).heap = ((w.heap.push (.cells #[.pointer (some ⟨c.wb, 0, none⟩)] 53)).push (.cells #[.pointer (some ⟨eb, eo, none⟩)] 81)).push (.cells #[.int .i64 (-1)] 3) := rfl
theorem boxes_new (c : Cfg) (eb eo : Nat) (w : World) : Boxes c w.heap.size (w.heap.size + 1) (w.heap.size + 2) eb eo (W3 c eb eo w) := by
  refine ⟨?_, ?_, ?_⟩
  · rw [heap3, Array.getElem?_push, if_neg (by simp; omega), Array.getElem?_push, if_neg (by simp), Array.getElem?_push, if_pos rfl]
  · rw [heap3, Array.getElem?_push, if_neg (by simp), Array.getElem?_push, if_pos (by simp)]
  · rw [heap3, Array.getElem?_push, if_pos (by simp)]
theorem below3 (c : Cfg) (eb eo : Nat) (w : World) : Below w.heap.size w (W3 c eb eo w) := (((Below.refl _ _).alloc (Nat.le_refl _) _).alloc (by simp) _).alloc (by simp; omega) _

set_option maxHeartbeats 2000000 in
set_option maxRecDepth 100000 in
theorem take_any {c : Cfg} {k ends : Nat} {log : List Int} {cv ov : Value} {cs os : List Bool} {w : World} {eb eo op : Nat} {tg : Int} {keep : Bool} (h : St c k ends log cv cs ov os w) (hl : log.length ≤ 999990) (he : ends ≤ 1000000) (ed : EdgeAt c eb eo op tg keep) (hop : op ≤ 3) :
    Calls Ybaf.prog 20 #[.pointer (some ⟨c.wb, 0, none⟩), .pointer (some ⟨eb, eo, none⟩), .int .i64 (-1)] w fun e w' => LogEnd c (nextErr c keep ends) k (nextEnds keep ends) (log ++ takeLog op keep tg) cv cs ov os e w' := by
  obtain ⟨lv, hs⟩ := h
  have HV : Hid (∀ i, w.heap.size ≤ i → lv.ownBlock ≠ some i) := fun i hi e => by have := ((hs.2.2.2.2.1).lt i e).2; omega
  have hb := boxes_new c eb eo w
  have hs3 := hs.below (below3 c eb eo w)
  have m1 := meth_assign
  have HE : Hid (EdgeAt c eb eo op tg keep) := ed
  have y0 := hs3.1.cell ed.1 ed.2.1 ed.2.2.1 ed.2.2.2.1
  have yw : (W3 c eb eo w).cell? ⟨c.wb, 0, none⟩ = some (.iface 46 (.pointer (some ⟨c.xb, 0, none⟩))) := by simpa using cell_of hs3.2.2.2.1 0
  have z1 := cell_of_one hb.1
  have z2 := cell_of_one hb.2.1
  have z3 := cell_of_one hb.2.2
  have HB : Hid (Boxes c w.heap.size (w.heap.size + 1) (w.heap.size + 2) eb eo (W3 c eb eo w)) := hb
  have HS : Hid (StL c k ends log lv cv cs ov os (W3 c eb eo w)) := hs3
  clear hb hs3 hs ed
  have hW : ((w.alloc (.cells #[.pointer (some ⟨c.wb, 0, none⟩)] 53)).alloc (.cells #[.pointer (some ⟨eb, eo, none⟩)] 81)).alloc (.cells #[.int .i64 (-1)] 3) = W3 c eb eo w := rfl
  generalize W3 c eb eo w = W at *
  by_cases h2 : op = 2
  · subst h2
    go_enter Ybaf.func20, Ybaf.ntmps20
    go_wp2_with fail
    go_region_with
      (first | (go_at_call 49; refine (assign_any (HS.out.same (by rfl) (by rfl) (by rfl) (by rfl)) hl he HE.out (by exact HB.out) (HV.out _ (by omega)) (HV.out _ (by omega)) (HV.out _ (by omega))).mono ?_; rintro e w1 ⟨rfl, hs1⟩))
    all_goals (go_wp2; go_ret; exact ⟨rfl, by rw [takeLog, if_pos rfl, ← List.append_assoc]; assumption⟩)
  · have ht : Hid (takeLog op keep tg = nextLog keep tg) := if_neg h2
    rw [ht.out]
    rcases (show op = 0 ∨ op = 1 ∨ op = 3 by omega) with rfl | rfl | rfl
    all_goals
      go_enter Ybaf.func20, Ybaf.ntmps20
      go_wp2_with fail
      refine (next_any ⟨lv, HS.out⟩ (by omega) he HE.out).mono ?_
      rintro e w1 ⟨rfl, hs1⟩
      go_wp2
      go_ret
      exact ⟨rfl, hs1⟩
end Go.Proofs.YbulkcwciFmt
