import Derived.Test.YbulkcwciFmtFrom
namespace Go.Proofs.YbulkcwciFmt
open Go.RowKit Go.Deep Go.Extern.Stop Go.Stop Go.Extern
attribute [local go_sem ↓] Go.wp_at_zero Go.wp_at_succ

def Cfg.rebase (c : Cfg) (W : World) : Cfg := { c with w0 := W }
/-- The world behind From's three boxes. -/
def WF (c : Cfg) (loc : Nat) (w : World) : World := ((w.alloc (.cells #[.pointer (some ⟨c.wb, 0, none⟩)] 53)).alloc (.cells #[.int .i64 loc] 3)).alloc (.cells #[.int .i64 (-1)] 3)
theorem heapF (c : Cfg) (loc : Nat) (w : World) : (WF c loc w).heap = ((w.heap.push (.cells #[.pointer (some ⟨c.wb, 0, none⟩)] 53)).push (.cells #[.int .i64 loc] 3)).push (.cells #[.int .i64 (-1)] 3) := rfl
theorem belowF (c : Cfg) (loc : Nat) (w : World) : Below w.heap.size w (WF c loc w) := (((Below.refl _ _).alloc (Nat.le_refl _) _).alloc (by simp) _).alloc (by simp; omega) _
theorem sizeF (c : Cfg) (loc : Nat) (w : World) : (WF c loc w).heap.size = w.heap.size + 3 := by rw [heapF]; simp
theorem box1F (c : Cfg) (loc : Nat) (w : World) : (WF c loc w).heap[w.heap.size]? = some (.cells #[.pointer (some ⟨c.wb, 0, none⟩)] 53 (0, 0)) := by
  rw [heapF, Array.getElem?_push, if_neg (by simp; omega), Array.getElem?_push, if_neg (by simp), Array.getElem?_push, if_pos rfl]
theorem box2F (c : Cfg) (loc : Nat) (w : World) : (WF c loc w).heap[w.heap.size + 1]? = some (.cells #[.int .i64 loc] 3 (0, 0)) := by
  rw [heapF, Array.getElem?_push, if_neg (by simp), Array.getElem?_push, if_pos (by simp)]
theorem box3F (c : Cfg) (loc : Nat) (w : World) : (WF c loc w).heap[w.heap.size + 2]? = some (.cells #[.int .i64 (-1)] 3 (0, 0)) := by
  rw [heapF, Array.getElem?_push, if_pos (by simp)]

/-- Before the step: x and w laid anew, the three rows nil. -/
def Fresh (c : Cfg) : Prop := (c.xb < c.w0.heap.size ∧ c.wb < c.w0.heap.size ∧ c.xb ≠ c.wb) ∧ XB c 0 0 (.slice none 0 0) c.w0 ∧ WB c (.slice none 0 0) (.slice none 0 0) c.w0
theorem Fresh.st {c : Cfg} (h : Fresh c) : St c 0 0 [] (.slice none 0 0) [] (.slice none 0 0) [] c.w0 :=
  ⟨.slice none 0 0, ⟨rfl, rfl, rfl, Nat.le_refl _, fun _ _ _ _ => rfl⟩, h.1, h.2.1, h.2.2, World.ownsRow_nil _ _ _ _, World.ownsRow_nil _ _ _ _, World.ownsRow_nil _ _ _ _, fun i e => by cases e⟩
theorem Fresh.rebase {c : Cfg} (h : Fresh c) {W : World} (b : Below c.w0.heap.size c.w0 W) : Fresh (c.rebase W) :=
  ⟨⟨Nat.lt_of_lt_of_le h.1.1 b.size, Nat.lt_of_lt_of_le h.1.2.1 b.size, h.1.2.2⟩, (b.block _ h.1.1).trans h.2.1, (b.block _ h.1.2.1).trans h.2.2⟩
theorem EdgesAt.rebase {c : Cfg} {E : Eds} {ea : Option Addr} (h : EdgesAt c E ea) {W : World} (b : Below c.w0.heap.size c.w0 W) : EdgesAt (c.rebase W) E ea := by
  refine ⟨h.1, fun h0 => ?_⟩
  obtain ⟨eb, e, hall⟩ := h.2 h0
  refine ⟨eb, e, fun j hj => ?_⟩
  obtain ⟨⟨e1, e2, e3, e4, e5, e6⟩, p1, p2, hol, hob, ob, p5, q1, q2, q3, q4⟩ := hall j hj
  have hc : ∀ (i j : Nat) v, i < c.w0.heap.size → c.w0.cell? ⟨i, j, none⟩ = some v → W.cell? ⟨i, j, none⟩ = some v := fun i j v hi hv => (b.cell (p := ⟨i, j, none⟩) hi).trans hv
  exact ⟨⟨Nat.lt_of_lt_of_le e1 b.size, e2, e3, hc _ _ _ e1 e4, hc _ _ _ e1 e5, hc _ _ _ e1 e6⟩, hc _ _ _ e1 p1, hc _ _ _ e1 p2, hol, hob, ob, hc _ _ _ e1 p5, Nat.lt_of_lt_of_le q1 b.size, q2, q3, fun m hm => hc _ _ _ q1 (q4 m hm)⟩
theorem GuardsAt.rebase {c : Cfg} {GA : Option Addr} {gl gc : Nat} {G : Nat → Bool} (h : GuardsAt c GA gl gc G) {W : World} (b : Below c.w0.heap.size c.w0 W) : GuardsAt (c.rebase W) GA gl gc G := by
  refine ⟨h.1, h.2.1, fun h0 => ?_⟩
  obtain ⟨bb, o, e, hb, hx, hw, hc⟩ := h.2.2 h0
  exact ⟨bb, o, e, Nat.lt_of_lt_of_le hb b.size, hx, hw, fun j hj => (b.cell (p := ⟨bb, o + j, none⟩) hb).trans (hc j hj)⟩

/-- The graph, and the location's edges. -/
def GraphAt (c : Cfg) (loc : Nat) (ea : Option Addr) (n ec : Nat) : Prop :=
  c.gb < c.w0.heap.size ∧ c.gb ≠ c.xb ∧ c.gb ≠ c.wb ∧ ∃ lb nl lc, lb < c.w0.heap.size ∧ lb ≠ c.xb ∧ lb ≠ c.wb ∧ loc < nl ∧ nl ≤ 1000000 ∧ c.w0.cell? ⟨c.gb, 0, none⟩ = some (.slice (some ⟨lb, 0, none⟩) nl lc) ∧ c.w0.cell? ⟨lb, loc * 6 + 4, none⟩ = some (.slice ea n ec)

def FromEnd (c : Cfg) (E : Eds) (gl : Nat) (G : Nat → Bool) (e : Ending) (w' : World) : Prop :=
  ∃ k' ends' log cv' cs' ov' os' err, e = .returned err ∧ St c k' ends' log cv' cs' ov' os' w' ∧
    ((Bad E ∧ log = [] ∧ ∃ a, err = .iface 62 (.pointer (some a))) ∨ (Good E ∧ RunEnd c E (c2 E gl G E.n) log err))

def RelF (c : Cfg) (E : Eds) (cs : List Bool) (k : Nat) (cv ov : Value) (os : List Bool) (v41 : Value) (wr : World) : Prop :=
  ∃ i, i ≤ E.n ∧ v41 = .int .i64 i ∧ (∀ j, j < i → ¬ StopsAt E cs c.fail j) ∧ St c k (rEnds E cs i) (rLog E cs i) cv cs ov os wr

theorem meth_none2 (a : Addr) (w : World) : (method 259 46 (.pointer (some a)) "None").run Ybaf.prog w = .ok (55, .pointer (some a)) w := by kernel_rfl
set_option maxHeartbeats 4000000 in
set_option maxRecDepth 100000 in
theorem from_any (F : Interp) (c : Cfg) (loc : Nat) (E : Eds) (ea : Option Addr) (ec : Nat) (GA : Option Addr) (gl gc : Nat) (G : Nat → Bool) (sa : Addr) (her : c.er = .iface 62 (.pointer (some sa))) (hf : Fresh c) (hF : F.answers c.w0.tape) (hgr : GraphAt c loc ea E.n ec)
    (hE : EdgesAt c E ea) (hG : GuardsAt c GA gl gc G) (hop : ∀ j, j < E.n → E.op j ≤ 3 ∨ E.op j = 7) :
    Calls Ybaf.prog 13 #[.pointer (some ⟨c.wb, 0, none⟩), .int .i64 loc, .int .i64 (-1)] c.w0 fun e w' => FromEnd (c.rebase (WF c loc c.w0)) E gl G e w' := by
  have bel := belowF c loc c.w0
  have hfr := hf.rebase bel
  have HE : Hid (EdgesAt (c.rebase (WF c loc c.w0)) E ea) := hE.rebase bel
  have HG : Hid (GuardsAt (c.rebase (WF c loc c.w0)) GA gl gc G) := hG.rebase bel
  have HP : Hid (∀ j, j < E.n → E.op j ≤ 3 ∨ E.op j = 7) := hop
  have HS : Hid (St (c.rebase (WF c loc c.w0)) 0 0 [] (.slice none 0 0) [] (.slice none 0 0) [] (WF c loc c.w0)) := hfr.st
  have HF : Hid (F.answers (WF c loc c.w0).tape) := hF
  obtain ⟨g1, g2, g3, lb, nl, lc, l1, l2, l3, hll, hnl, cg, cl⟩ := hgr
  have cg' := (bel.cell (p := ⟨c.gb, 0, none⟩) g1).trans cg
  have cl' := (bel.cell (p := ⟨lb, loc * 6 + 4, none⟩) l1).trans cl
  have b1 := cell_of_one (box1F c loc c.w0)
  have b2 := cell_of_one (box2F c loc c.w0)
  have b3 : (WF c loc c.w0).cell? ⟨c.w0.heap.size + 1 + 1, 0, none⟩ = some (.int .i64 (-1)) := cell_of_one (box3F c loc c.w0)
  have q0 : (WF c loc c.w0).cell? ⟨c.wb, 0, none⟩ = some (.iface 46 (.pointer (some ⟨c.xb, 0, none⟩))) := (cell_of hfr.2.2 0).trans rfl
  have q1 : (WF c loc c.w0).cell? ⟨c.wb, 1, none⟩ = some (.pointer (some ⟨c.gb, 0, none⟩)) := (cell_of hfr.2.2 1).trans rfl
  have q2 : (WF c loc c.w0).cell? ⟨c.wb, 2, none⟩ = some (.slice none 0 0) := (cell_of hfr.2.2 2).trans rfl
  have B1 : Hid ((WF c loc c.w0).heap[c.w0.heap.size]? = some (.cells #[.pointer (some ⟨c.wb, 0, none⟩)] 53 (0, 0))) := box1F c loc c.w0
  have B3 : Hid ((WF c loc c.w0).heap[c.w0.heap.size + 1 + 1]? = some (.cells #[.int .i64 (-1)] 3 (0, 0))) := box3F c loc c.w0
  have hsz := sizeF c loc c.w0
  have hxw : c.xb < c.w0.heap.size ∧ c.wb < c.w0.heap.size := ⟨hf.1.1, hf.1.2.1⟩
  clear hfr hE hG hop hf hF cg cl g1 g2 g3 l1 l2 l3 bel
  have hW : ((c.w0.alloc (.cells #[.pointer (some ⟨c.wb, 0, none⟩)] 53)).alloc (.cells #[.int .i64 loc] 3)).alloc (.cells #[.int .i64 (-1)] 3) = WF c loc c.w0 := rfl
  generalize WF c loc c.w0 = W at *
  go_enter_defers Ybaf.func13, Ybaf.ntmps13
  go_wp2_with fail
  go_region_held3 (fun w' => w'.cell? ⟨c.w0.heap.size, 0, none⟩ = some (.pointer (some ⟨c.wb, 0, none⟩)) ∧ w'.cell? ⟨c.wb, 2, none⟩ = some (.slice none 0 0)) (go_keep) (fail)
  go_wp2_with fail
  go_quiet (fail)
  go_wp2_with fail
  refine (cond_any (c := c.rebase W) F E ea ec GA gl gc G (HS.out.below (by exact ⟨rfl, rfl, rfl, Nat.le_refl _, fun _ _ => rfl⟩)) HF.out HE.out HG.out HP.out).mono ?_
  rintro e w1 (⟨hbad, k', cv', cs', ov', os', a, rfl, hs1⟩ | ⟨hgood, cv', ov', os', rfl, hs1⟩)
  · have HB : Hid (Bad E) := hbad
    have H1 : Hid (St (c.rebase W) k' 0 [] cv' cs' ov' os' w1) := hs1
    clear hbad hs1
    go_wp2
    refine leaves_cons (f := 17) (args := #[.pointer (some ⟨c.wb, 0, none⟩), .int .i64 0]) (by simp) (by simp [go_sem]) ?_
    refine (forget_d (c := c.rebase W) .returning H1.out).mono ?_
    rintro e u' w2 ⟨rfl, rfl, cv2, hs2⟩
    refine ⟨_, results_tmp rfl _ _ _, ?_⟩
    exact ⟨_, _, _, _, _, _, _, _, rfl, hs2, .inl ⟨HB.out, rfl, a, rfl⟩⟩
  · have HGd : Hid (Good E) := hgood
    have H1 : Hid (St (c.rebase W) (gk E.op E.n) 0 [] cv' (c2 E gl G E.n) ov' os' w1) := hs1
    have hn := HE.out.1
    clear hgood hs1
    have HX : Hid (c.xb < c.w0.heap.size ∧ c.wb < c.w0.heap.size) := hxw
    have m1 := meth_when
    have m2 := meth_none
    have m3 := meth_none2
    obtain ⟨cs, hcs⟩ : ∃ l, c2 E gl G E.n = l := ⟨_, rfl⟩
    have HCS : Hid (c2 E gl G E.n = cs) := hcs
    rw [hcs] at H1
    have hcl : cs.length = E.n := by rw [← hcs]; exact c2_length _ _ _ _
    clear hcs
    go_wp2
    go_loopw [41] (fun v41 wr => RelF (c.rebase W) E cs (gk E.op E.n) cv' ov' os' v41 wr) (fun v41 _ => E.n - (intOf v41).toNat)
    case atStart => exact ⟨0, Nat.zero_le _, rfl, fun j hj => absurd hj (by omega), H1.out⟩
    case round =>
      obtain ⟨i, hin, rfl, hns, hst⟩ := hrel
      have HNS : Hid (∀ j, j < i → ¬ StopsAt E cs c.fail j) := hns
      have H2 : Hid (St (c.rebase W) (gk E.op E.n) (rEnds E cs i) (rLog E cs i) cv' cs ov' os' wr) := hst
      have r0 : wr.cell? ⟨c.wb, 0, none⟩ = some (.iface 46 (.pointer (some ⟨c.xb, 0, none⟩))) := (cell_of hst.wbk 0).trans rfl
      have hx := HX.out
      have k1 : wr.heap[c.w0.heap.size]? = some (.cells #[.pointer (some ⟨c.wb, 0, none⟩)] 53 (0, 0)) := (hst.fr.2.2.2.2 _ (by show c.w0.heap.size < W.heap.size; omega) (by show c.w0.heap.size ≠ c.xb; omega) (by show c.w0.heap.size ≠ c.wb; omega)).trans B1.out
      have k3 : wr.heap[c.w0.heap.size + 1 + 1]? = some (.cells #[.int .i64 (-1)] 3 (0, 0)) := (hst.fr.2.2.2.2 _ (by show c.w0.heap.size + 1 + 1 < W.heap.size; omega) (by show c.w0.heap.size + 1 + 1 ≠ c.xb; omega) (by show c.w0.heap.size + 1 + 1 ≠ c.wb; omega)).trans B3.out
      have d1 := cell_of_one k1
      have d3 := cell_of_one k3
      have K1 : Hid (wr.heap[c.w0.heap.size]? = some (.cells #[.pointer (some ⟨c.wb, 0, none⟩)] 53 (0, 0))) := k1
      have K3 : Hid (wr.heap[c.w0.heap.size + 1 + 1]? = some (.cells #[.int .i64 (-1)] 3 (0, 0))) := k3
      clear hns hst k1 k3 b1 b2 b3 q0 q1 q2 cg' cl'
      by_cases hlt : i < E.n
      · obtain ⟨lv2, hs2⟩ := H2.out
        obtain ⟨g, cap, hcv, -, -⟩ := (hs2.2.2.2.2.2.1).form (by omega)
        rw [hcl] at hcv
        subst hcv
        have hcc := own_cap hs2.2.2.2.2.2.1
        rw [hcl] at hcc
        obtain ⟨hcap, hcm⟩ := hcc
        have vc : wr.cell? ⟨g, i, none⟩ = some (.bool (csAt cs i)) := own_cell hs2.2.2.2.2.2.1 hcl i hlt
        obtain ⟨eb, he, hall⟩ := HE.out.2 (by omega)
        have HED : Hid (EdgeAt (c.rebase W) eb (i * 8) (E.op i) (E.tg i) (E.keep i)) := (hall i hlt).1
        have hopi := HGd.out i hlt
        have n1 := World.new_ne wr _ d1
        have n2 := World.new_ne wr _ r0
        have n3 := World.new_ne wr _ vc
        subst he
        clear hall hs2
        cases hci : csAt cs i
        · rw [hci] at vc
          have HLn : Hid (rLog E cs (i + 1) = rLog E cs i ∧ rEnds E cs (i + 1) = rEnds E cs i) := ⟨if_neg (by rw [hci]; decide), if_neg (by rw [hci]; decide)⟩
          go_wp2_with fail
          go_region_held3 (fun w' => w'.cell? ⟨c.w0.heap.size, 0, none⟩ = some (.pointer (some ⟨c.wb, 0, none⟩)) ∧ w'.cell? ⟨c.wb, 0, none⟩ = some (.iface 46 (.pointer (some ⟨c.xb, 0, none⟩))) ∧ w'.cell? ⟨g, i, none⟩ = some (.bool false)) (go_keep)
            (first | (go_at_call 57; refine (when_no c.xb _ _).mono ?_; rintro e w' ⟨rfl, rfl⟩))
          go_wp2
          go_roundw
          case rel => exact ⟨i + 1, hlt, by go_num, fun j hj => by
            by_cases e : j = i
            · subst e; intro hsp; rw [hsp.1] at hci; cases hci
            · exact HNS.out j (by omega), by rw [HLn.out.1, HLn.out.2]; exact H2.out.below (by exact ⟨rfl, rfl, rfl, by simp, fun j hj => Below.heap_alloc _ _ _ hj⟩)⟩
          case measure => simp [intOf]; omega
        · rw [hci] at vc
          have HLn : Hid (rLog E cs (i + 1) = rLog E cs i ++ takeLog (E.op i) (E.keep i) (E.tg i) ∧ rEnds E cs (i + 1) = nextEnds (E.keep i) (rEnds E cs i)) := ⟨if_pos hci, if_pos hci⟩
          have hl1 := rLog_length E cs i
          have hl2 := rEnds_le E cs i
          have lk1 := lt_of_block K1.out
          have lk3 := lt_of_block K3.out
          have HBX : Hid (Boxes (c.rebase W) c.w0.heap.size wr.heap.size (c.w0.heap.size + 1 + 1) eb (i * 8) (wr.alloc (.cells #[.pointer (some ⟨eb, i * 8, none⟩)] 81))) :=
            ⟨(Below.heap_alloc _ _ _ lk1).trans K1.out, heap_alloc_new _ _, (Below.heap_alloc _ _ _ lk3).trans K3.out⟩
          by_cases hsp : E.keep i = false ∧ rEnds E cs i = c.fail
          · have hne : Hid (nextErr (c.rebase W) (E.keep i) (rEnds E cs i) = .iface 62 (.pointer (some sa))) := by
              show nextErr (c.rebase W) (E.keep i) (rEnds E cs i) = .iface 62 (.pointer (some sa))
              rw [hsp.1, hsp.2, ← her]
              exact if_pos rfl
            have HSP : Hid (E.keep i = false ∧ rEnds E cs i = c.fail) := hsp
            clear hsp
            go_wp2_with fail
            go_region_held3 (fun w' => w'.cell? ⟨c.w0.heap.size, 0, none⟩ = some (.pointer (some ⟨c.wb, 0, none⟩)) ∧ w'.cell? ⟨c.wb, 0, none⟩ = some (.iface 46 (.pointer (some ⟨c.xb, 0, none⟩))) ∧ w'.cell? ⟨g, i, none⟩ = some (.bool true)) (go_keep)
              (first | (go_at_call 57; refine (when19_any (c := c.rebase W) (b1 := c.w0.heap.size) (b2 := wr.heap.size) (b3 := c.w0.heap.size + 1 + 1) (H2.out.below (by exact ⟨rfl, rfl, rfl, by simp, fun j hj => Below.heap_alloc _ _ _ hj⟩)) (by omega) (by omega) HED.out hopi (by exact HBX.out)).mono ?_; rintro e w3 ⟨he3, hs3⟩; rw [hne.out] at he3; subst he3; have H3 : Hid (St (c.rebase W) (gk E.op E.n) (nextEnds (E.keep i) (rEnds E cs i)) (rLog E cs i ++ takeLog (E.op i) (E.keep i) (E.tg i)) (.slice (some ⟨g, 0, none⟩) E.n cap) cs ov' os' w3) := hs3; have z1 : w3.cell? ⟨c.w0.heap.size, 0, none⟩ = some (.pointer (some ⟨c.wb, 0, none⟩)) := cell_of_one ((hs3.fr.2.2.2.2 _ (by show c.w0.heap.size < W.heap.size; omega) (by show c.w0.heap.size ≠ c.xb; omega) (by show c.w0.heap.size ≠ c.wb; omega)).trans B1.out); have z2 : w3.cell? ⟨c.wb, 0, none⟩ = some (.iface 46 (.pointer (some ⟨c.xb, 0, none⟩))) := (cell_of hs3.wbk 0).trans rfl; have z3 : w3.cell? ⟨g, i, none⟩ = some (.bool true) := by { obtain ⟨lv9, h9⟩ := hs3; have := own_cell h9.2.2.2.2.2.1 hcl i hlt; rw [this]; exact congrArg (fun b => some (Value.bool b)) hci }; clear hs3))
            go_wp2
            refine leaves_cons (f := 17) (args := #[.pointer (some ⟨c.wb, 0, none⟩), .int .i64 0]) (by simp) (by simp [go_sem]) ?_
            refine (forget_d (c := c.rebase W) .returning (H3.out.below (by exact ⟨rfl, rfl, rfl, Nat.le_refl _, fun _ _ => rfl⟩))).mono ?_
            rintro e u' w2 ⟨rfl, rfl, cv2, hs2⟩
            refine ⟨_, results_tmp rfl _ _ _, ?_⟩
            exact ⟨_, _, _, _, _, _, _, _, rfl, hs2, .inr ⟨HGd.out, by rw [HCS.out]; exact .inl ⟨i, hlt, HNS.out, ⟨hci, HSP.out.1, HSP.out.2⟩, HLn.out.1.symm, her.symm⟩⟩⟩
          · have hne : Hid (nextErr (c.rebase W) (E.keep i) (rEnds E cs i) = .nilIface) := by
              show nextErr (c.rebase W) (E.keep i) (rEnds E cs i) = .nilIface
              unfold nextErr endErr
              split
              · rfl
              · rename_i hk
                rw [if_neg]
                intro e
                exact hsp ⟨by simpa using hk, e⟩
            have HSP : Hid (¬ (E.keep i = false ∧ rEnds E cs i = c.fail)) := hsp
            clear hsp
            go_wp2_with fail
            go_region_held3 (fun w' => w'.cell? ⟨c.w0.heap.size, 0, none⟩ = some (.pointer (some ⟨c.wb, 0, none⟩)) ∧ w'.cell? ⟨c.wb, 0, none⟩ = some (.iface 46 (.pointer (some ⟨c.xb, 0, none⟩))) ∧ w'.cell? ⟨g, i, none⟩ = some (.bool true)) (go_keep)
              (first | (go_at_call 57; refine (when19_any (c := c.rebase W) (b1 := c.w0.heap.size) (b2 := wr.heap.size) (b3 := c.w0.heap.size + 1 + 1) (H2.out.below (by exact ⟨rfl, rfl, rfl, by simp, fun j hj => Below.heap_alloc _ _ _ hj⟩)) (by omega) (by omega) HED.out hopi (by exact HBX.out)).mono ?_; rintro e w3 ⟨he3, hs3⟩; rw [hne.out] at he3; subst he3; have H3 : Hid (St (c.rebase W) (gk E.op E.n) (nextEnds (E.keep i) (rEnds E cs i)) (rLog E cs i ++ takeLog (E.op i) (E.keep i) (E.tg i)) (.slice (some ⟨g, 0, none⟩) E.n cap) cs ov' os' w3) := hs3; have z1 : w3.cell? ⟨c.w0.heap.size, 0, none⟩ = some (.pointer (some ⟨c.wb, 0, none⟩)) := cell_of_one ((hs3.fr.2.2.2.2 _ (by show c.w0.heap.size < W.heap.size; omega) (by show c.w0.heap.size ≠ c.xb; omega) (by show c.w0.heap.size ≠ c.wb; omega)).trans B1.out); have z2 : w3.cell? ⟨c.wb, 0, none⟩ = some (.iface 46 (.pointer (some ⟨c.xb, 0, none⟩))) := (cell_of hs3.wbk 0).trans rfl; have z3 : w3.cell? ⟨g, i, none⟩ = some (.bool true) := by { obtain ⟨lv9, h9⟩ := hs3; have := own_cell h9.2.2.2.2.2.1 hcl i hlt; rw [this]; exact congrArg (fun b => some (Value.bool b)) hci }; clear hs3))
            go_wp2
            go_roundw
            case rel => exact ⟨i + 1, hlt, by go_num, fun j hj => by
              by_cases e : j = i
              · subst e; intro hsp; exact HSP.out hsp.2
              · exact HNS.out j (by omega), by rw [HLn.out.1, HLn.out.2]; exact H3.out.below (by exact ⟨rfl, rfl, rfl, Nat.le_refl _, fun _ _ => rfl⟩)⟩
            case measure => simp [intOf]; omega
      · obtain rfl : i = E.n := by omega
        obtain ⟨lv2, hs2⟩ := H2.out
        obtain ⟨A9, cap9, hcv, hel⟩ := own_elems hs2.2.2.2.2.2.1
        subst hcv
        have HNn : Hid (∀ W9 : World, W9.heap = wr.heap → Elems W9 A9 E.n (fun j => .bool (cs.getD j false))) := fun W9 hW9 h0 => by
          obtain ⟨b, o, e, hb, hc⟩ := hel (by rw [hcl]; exact h0)
          exact ⟨b, o, e, by rw [hW9]; exact hb, fun j hj => by have := hc j (by rw [hcl]; exact hj); simp only [World.cell?, hW9] at this ⊢; exact this⟩
        have hl1 := rLog_length E cs E.n
        have hX0 : ((List.range E.n).all fun j => !cs.getD j false) = (cs.all fun b => !b) := by rw [← hcl]; exact all_range cs
        clear hel hs2
        rw [hcl] at H2
        obtain ⟨bb, hbb⟩ : ∃ b, (cs.all fun b => !b) = b := ⟨_, rfl⟩
        have HX9 : Hid (((List.range E.n).all fun j => !cs.getD j false) = bb) := hX0.trans hbb
        have HBB : Hid ((cs.all fun b => !b) = bb) := hbb
        have HN9 : Hid (E.n ≤ 1000000) := by show E.n ≤ 1000000; omega
        clear hX0 hbb
        cases bb
        · go_wp2_with fail
          go_region_held3 (fun w' => w'.cell? ⟨c.w0.heap.size, 0, none⟩ = some (.pointer (some ⟨c.wb, 0, none⟩)) ∧ w'.cell? ⟨c.wb, 0, none⟩ = some (.iface 46 (.pointer (some ⟨c.xb, 0, none⟩)))) (go_keep)
            (first | (go_at_call 55; refine (none_any c.xb A9 E.n cap9 (fun j => cs.getD j false) _ (HNn.out _ (by rfl)) HN9.out).mono ?_; rintro e w' ⟨he9, rfl⟩; rw [HX9.out] at he9; subst he9) | (go_at_call 57; refine (when_no c.xb _ _).mono ?_; rintro e w' ⟨rfl, rfl⟩))
          all_goals go_wp2
          all_goals
            refine leaves_cons (f := 17) (args := #[.pointer (some ⟨c.wb, 0, none⟩), .int .i64 0]) (by simp) (by simp [go_sem]) ?_
            refine (forget_d (c := c.rebase W) .returning (H2.out.below (by exact ⟨rfl, rfl, rfl, Nat.le_refl _, fun _ _ => rfl⟩))).mono ?_
            rintro e u' w2 ⟨rfl, rfl, cv2, hs2⟩
            refine ⟨_, results_tmp rfl _ _ _, ?_⟩
            exact ⟨_, _, _, _, _, _, _, _, rfl, hs2, .inr ⟨HGd.out, by rw [HCS.out]; exact .inr ⟨HNS.out, by rw [HBB.out]; simp, rfl⟩⟩⟩
        · have HK1 : Hid (∀ W9 : World, W9.heap = wr.heap → W9.heap[c.w0.heap.size]? = some (.cells #[.pointer (some ⟨c.wb, 0, none⟩)] 53 (0, 0))) := fun W9 h => by rw [h]; exact K1.out
          have HK3 : Hid (∀ W9 : World, W9.heap = wr.heap → W9.heap[c.w0.heap.size + 1 + 1]? = some (.cells #[.int .i64 (-1)] 3 (0, 0))) := fun W9 h => by rw [h]; exact K3.out
          go_wp2_with fail
          go_region_held3 (fun w' => w'.cell? ⟨c.w0.heap.size, 0, none⟩ = some (.pointer (some ⟨c.wb, 0, none⟩)) ∧ w'.cell? ⟨c.wb, 0, none⟩ = some (.iface 46 (.pointer (some ⟨c.xb, 0, none⟩)))) (go_keep)
            (first | (go_at_call 55; refine (none_any c.xb A9 E.n cap9 (fun j => cs.getD j false) _ (HNn.out _ (by rfl)) HN9.out).mono ?_; rintro e w' ⟨he9, rfl⟩; rw [HX9.out] at he9; subst he9) | (go_at_call 57; refine (when21_any (c := c.rebase W) (b1 := c.w0.heap.size) (b3 := c.w0.heap.size + 1 + 1) _ (H2.out.below (by exact ⟨rfl, rfl, rfl, Nat.le_refl _, fun _ _ => rfl⟩)) (by omega) (HK1.out _ (by rfl)) (HK3.out _ (by rfl))).mono ?_; rintro e w3 ⟨rfl, hs3⟩; have H3 : Hid (St (c.rebase W) (gk E.op E.n) (rEnds E cs E.n) (rLog E cs E.n ++ [0, 0]) (.slice A9 E.n cap9) cs ov' os' w3) := hs3; have z1 : w3.cell? ⟨c.w0.heap.size, 0, none⟩ = some (.pointer (some ⟨c.wb, 0, none⟩)) := cell_of_one ((hs3.fr.2.2.2.2 _ (by show c.w0.heap.size < W.heap.size; omega) (by show c.w0.heap.size ≠ c.xb; omega) (by show c.w0.heap.size ≠ c.wb; omega)).trans B1.out); have z2 : w3.cell? ⟨c.wb, 0, none⟩ = some (.iface 46 (.pointer (some ⟨c.xb, 0, none⟩))) := (cell_of hs3.wbk 0).trans rfl; clear hs3))
          all_goals go_wp2
          all_goals
            refine leaves_cons (f := 17) (args := #[.pointer (some ⟨c.wb, 0, none⟩), .int .i64 0]) (by simp) (by simp [go_sem]) ?_
            refine (forget_d (c := c.rebase W) .returning (H3.out.below (by exact ⟨rfl, rfl, rfl, Nat.le_refl _, fun _ _ => rfl⟩))).mono ?_
            rintro e u' w2 ⟨rfl, rfl, cv2, hs2⟩
            refine ⟨_, results_tmp rfl _ _ _, ?_⟩
            exact ⟨_, _, _, _, _, _, _, _, rfl, hs2, .inr ⟨HGd.out, by rw [HCS.out]; exact .inr ⟨HNS.out, by rw [HBB.out]; simp, rfl⟩⟩⟩
end Go.Proofs.YbulkcwciFmt
