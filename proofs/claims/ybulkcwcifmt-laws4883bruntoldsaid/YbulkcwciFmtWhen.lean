import Derived.Test.YbulkcwciFmtTake
namespace Go.Proofs.YbulkcwciFmt
open Go.RowKit Go.Deep
attribute [local go_sem ↓] Go.wp_at_zero Go.wp_at_succ

set_option maxRecDepth 100000 in
theorem close19_any {c : Cfg} {k ends : Nat} {log : List Int} {cv ov : Value} {cs os : List Bool} {w : World} {eb eo op b1 b2 b3 : Nat} {tg : Int} {keep : Bool} (h : St c k ends log cv cs ov os w) (hl : log.length ≤ 999990) (he : ends ≤ 1000000) (ed : EdgeAt c eb eo op tg keep) (hop : op ≤ 3) (bx : Boxes c b1 b2 b3 eb eo w) :
    Calls Ybaf.prog 19 #[.pointer (some ⟨b1, 0, none⟩), .pointer (some ⟨b2, 0, none⟩), .pointer (some ⟨b3, 0, none⟩)] w fun e w' => LogEnd c (nextErr c keep ends) k (nextEnds keep ends) (log ++ takeLog op keep tg) cv cs ov os e w' := by
  obtain ⟨x1, x2, x3⟩ := bx
  have y1 := cell_of_one x1
  have y2 := cell_of_one x2
  have y3 := cell_of_one x3
  have HS : Hid (St c k ends log cv cs ov os w) := h
  have HE : Hid (EdgeAt c eb eo op tg keep) := ed
  clear h ed x1 x2 x3
  go_enter Ybaf.func19, Ybaf.ntmps19
  go_wp2_with fail
  refine (take_any HS.out hl he HE.out hop).mono ?_
  rintro e w1 ⟨rfl, hs1⟩
  go_wp2
  go_ret
  exact ⟨rfl, hs1⟩

set_option maxRecDepth 100000 in
theorem when19_any {c : Cfg} {k ends : Nat} {log : List Int} {cv ov : Value} {cs os : List Bool} {w : World} {eb eo op b1 b2 b3 : Nat} {tg : Int} {keep : Bool} (h : St c k ends log cv cs ov os w) (hl : log.length ≤ 999990) (he : ends ≤ 1000000) (ed : EdgeAt c eb eo op tg keep) (hop : op ≤ 3) (bx : Boxes c b1 b2 b3 eb eo w) :
    Calls Ybaf.prog 57 #[.pointer (some ⟨c.xb, 0, none⟩), .bool true, .func (.func 19) #[] #[.pointer (some ⟨b1, 0, none⟩), .pointer (some ⟨b2, 0, none⟩), .pointer (some ⟨b3, 0, none⟩)]] w fun e w' => LogEnd c (nextErr c keep ends) k (nextEnds keep ends) (log ++ takeLog op keep tg) cv cs ov os e w' := by
  have HS : Hid (St c k ends log cv cs ov os w) := h
  have HE : Hid (EdgeAt c eb eo op tg keep) := ed
  have HB : Hid (Boxes c b1 b2 b3 eb eo w) := bx
  clear h ed bx
  go_enter Ybaf.func57, Ybaf.ntmps57
  go_wp2_with fail
  refine (close19_any HS.out hl he HE.out hop HB.out).mono ?_
  rintro e w1 ⟨rfl, hs1⟩
  go_wp2
  go_ret
  exact ⟨rfl, hs1⟩

set_option maxRecDepth 100000 in
theorem when_no (xb : Nat) (f : Value) (w : World) : Calls Ybaf.prog 57 #[.pointer (some ⟨xb, 0, none⟩), .bool false, f] w fun e w' => e = .returned .nilIface ∧ w' = w := by
  go_enter Ybaf.func57, Ybaf.ntmps57
  go_wp2
  go_ret
  exact ⟨rfl, rfl⟩

set_option maxRecDepth 100000 in
theorem close21_any {c : Cfg} {k ends : Nat} {log : List Int} {cv ov : Value} {cs os : List Bool} {w : World} {b1 b3 : Nat} (lb : Value) (h : St c k ends log cv cs ov os w) (hl : log.length ≤ 999990)
    (x1 : w.heap[b1]? = some (.cells #[.pointer (some ⟨c.wb, 0, none⟩)] 53 (0, 0))) (x3 : w.heap[b3]? = some (.cells #[.int .i64 (-1)] 3 (0, 0))) :
    Calls Ybaf.prog 21 #[.pointer (some ⟨b3, 0, none⟩), .pointer (some ⟨b1, 0, none⟩), lb] w fun e w' => LogEnd c .nilIface k ends (log ++ [0, 0]) cv cs ov os e w' := by
  have y1 := cell_of_one x1
  have y3 := cell_of_one x3
  have y0 : w.cell? ⟨c.wb, 0, none⟩ = some (.iface 46 (.pointer (some ⟨c.xb, 0, none⟩))) := by simpa using cell_of h.wbk 0
  have HS : Hid (St c k ends log cv cs ov os w) := h
  have m1 := meth_stuck
  clear h x1 x3
  go_enter Ybaf.func21, Ybaf.ntmps21
  go_wp2_with fail
  refine (stuck_any HS.out (by omega)).mono ?_
  rintro e w1 ⟨rfl, hs1⟩
  go_wp2
  go_ret
  exact ⟨rfl, hs1⟩

set_option maxRecDepth 100000 in
theorem when21_any {c : Cfg} {k ends : Nat} {log : List Int} {cv ov : Value} {cs os : List Bool} {w : World} {b1 b3 : Nat} (lb : Value) (h : St c k ends log cv cs ov os w) (hl : log.length ≤ 999990)
    (x1 : w.heap[b1]? = some (.cells #[.pointer (some ⟨c.wb, 0, none⟩)] 53 (0, 0))) (x3 : w.heap[b3]? = some (.cells #[.int .i64 (-1)] 3 (0, 0))) :
    Calls Ybaf.prog 57 #[.pointer (some ⟨c.xb, 0, none⟩), .bool true, .func (.func 21) #[] #[.pointer (some ⟨b3, 0, none⟩), .pointer (some ⟨b1, 0, none⟩), lb]] w fun e w' => LogEnd c .nilIface k ends (log ++ [0, 0]) cv cs ov os e w' := by
  have HS : Hid (St c k ends log cv cs ov os w) := h
  have H1 : Hid (w.heap[b1]? = some (.cells #[.pointer (some ⟨c.wb, 0, none⟩)] 53 (0, 0))) := x1
  have H3 : Hid (w.heap[b3]? = some (.cells #[.int .i64 (-1)] 3 (0, 0))) := x3
  clear h x1 x3
  go_enter Ybaf.func57, Ybaf.ntmps57
  go_wp2_with fail
  refine (close21_any lb HS.out hl H1.out H3.out).mono ?_
  rintro e w1 ⟨rfl, hs1⟩
  go_wp2
  go_ret
  exact ⟨rfl, hs1⟩
end Go.Proofs.YbulkcwciFmt
