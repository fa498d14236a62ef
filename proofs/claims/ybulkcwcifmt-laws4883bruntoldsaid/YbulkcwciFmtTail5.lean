import Derived.Test.YbulkcwciFmtLawBase
namespace Go.Proofs.YbulkcwciFmt
open Go.RowKit Go.Deep

def RelW (c : Cfg) (E : Eds) (cs : List Bool) (W5 : World) (v42 v43 v44 v260 : Value) (wr : World) : Prop :=
  ∃ i, i ≤ E.n ∧ v260 = .int .i64 i ∧ v43 = .int .i64 (rEnds E cs i) ∧ v44 = .bool (tkn cs i) ∧ (∀ j, j < i → ¬ StopsAt E cs c.fail j) ∧
    wr.ownsRow W5.heap.size 3 1 v42 (rLog E cs i).length (ints (rLog E cs i)) ∧ Below W5.heap.size W5 wr

theorem elems_ints {w : World} {base : Nat} {v : Value} {l : List Int} (h : w.ownsRow base 3 1 v l.length (ints l)) : ∃ A cap, v = .slice A l.length cap ∧ Elems w A l.length (fun j => .int .i64 (l.getD j 0)) := by
  rcases h.2 with ⟨rfl, h0⟩ | ⟨g, cap, cur, rfl, hb, hg, r⟩
  · exact ⟨none, 0, by rw [h0], fun hp => absurd hp (by omega)⟩
  · refine ⟨some ⟨g, 0, none⟩, cap, rfl, fun _ => ⟨g, 0, rfl, (h.lt g rfl).2, fun j hj => ?_⟩⟩
    rw [Nat.zero_add, h.cellAt j (by omega)]
    simp [ints, List.getD_eq_getElem?_getD, List.getElem?_eq_getElem hj]

theorem elems_eq {w w' : World} {base n : Nat} {v : Value} {log l : List Int} (h : w.ownsRow base 3 1 v log.length (ints log)) (e : log = l) (hn : l.length = n) (b : Below w.heap.size w w') : ∃ A cap, v = .slice A n cap ∧ Elems w' A n (fun j => .int .i64 (l.getD j 0)) := by
  subst e
  subst hn
  obtain ⟨A, cap, e, he⟩ := elems_ints h
  exact ⟨A, cap, e, he.below b⟩
/-- The first stop is the only one. -/
theorem run_stop {c : Cfg} {E : Eds} {cs : List Bool} {log : List Int} {err : Value} {i : Nat} (h : RunEnd c E cs log err) (hi : i < E.n) (hns : ∀ j, j < i → ¬ StopsAt E cs c.fail j) (hs : StopsAt E cs c.fail i) : log = rLog E cs (i + 1) ∧ err = c.er := by
  rcases h with ⟨j, hj, hn2, hs2, e1, e2⟩ | ⟨hn2, _⟩
  · have : j = i := by
      rcases Nat.lt_trichotomy j i with h | h | h
      · exact absurd hs2 (hns j h)
      · exact h
      · exact absurd hs (hn2 i h)
    subst this
    exact ⟨e1, e2⟩
  · exact absurd hs (hn2 i hi)
theorem run_on {c : Cfg} {E : Eds} {cs : List Bool} {log : List Int} {err : Value} (h : RunEnd c E cs log err) (hns : ∀ j, j < E.n → ¬ StopsAt E cs c.fail j) : log = rLog E cs E.n ++ (if (cs.all fun b => !b) = true then [0, 0] else []) ∧ err = .nilIface := by
  rcases h with ⟨j, hj, _, hs2, _⟩ | ⟨_, h2⟩
  · exact absurd hs2 (hns j hj)
  · exact h2
theorem take_two (op : Nat) (tg : Int) (keep : Bool) : takeLog op keep tg = (if op = 2 then [2, tg] else []) ++ nextLog keep tg := by
  unfold takeLog
  split <;> simp

theorem hat_le {p : Prop} {a b i : Nat} (h : p ∨ b ≤ i) (hab : a ≤ b) : p ∨ a ≤ i := by
  rcases h with h | h
  · exact .inl h
  · exact .inr (Nat.le_trans hab h)
/-- The round's own copy of the edge (block b1), and 'want'. -/
def D5 (b1 : Nat) (d : Ed) (v : Value) (l : List Int) (w x : World) : Prop :=
  Below w.heap.size w x ∧ x.ownsRow w.heap.size 3 1 v l.length (ints l) ∧ b1 < x.heap.size ∧ w.heap.size ≤ b1 ∧ v.ownBlock ≠ some b1 ∧ x.cell? ⟨b1, 2, none⟩ = some (.int .i64 d.tg) ∧ x.cell? ⟨b1, 3, none⟩ = some (.bool d.keep)
theorem D5.new {d : Ed} {v : Value} {l : List Int} {w wr : World} (hb : Below w.heap.size w wr) (ho : wr.ownsRow w.heap.size 3 1 v l.length (ints l)) (a b : Value) : D5 wr.heap.size d v l w (wr.alloc (.cells #[a, b, .int .i64 d.tg, .bool d.keep] 28)) :=
  ⟨hb.alloc hb.size _, ho.alloc _, by simp, hb.size, fun e => by have := (ho.lt _ e).2; omega, (World.cell?_alloc_new wr _ _ _).trans rfl, (World.cell?_alloc_new wr _ _ _).trans rfl⟩
theorem D5.append {b1 : Nat} {d : Ed} {v v' : Value} {l news : List Int} {w x x' : World} (o : Obj) (h : D5 b1 d v l w x) (g : (x.alloc o).grownBy x' v.ownBlock) (ho : x'.ownsRow w.heap.size 3 1 v' (l.length + news.length) (ints l ++ ints news))
    (hat : ∀ i, v'.ownBlock = some i → v.ownBlock = some i ∨ x.heap.size ≤ i) : D5 b1 d v' (l ++ news) w x' := by
  obtain ⟨h1, h2, h3, h4, h5, h6, h7⟩ := h
  have hbk : x'.heap[b1]? = x.heap[b1]? := (g.block b1 (by simp; omega) (fun e => h5 e.symm)).trans (Below.heap_alloc _ _ _ h3)
  refine ⟨(h1.alloc h1.size o).grown g (by have := h1.size; simp; omega) (fun k hk => (h2.lt k hk).1), by rw [List.length_append, ints_append]; exact ho, Nat.lt_of_lt_of_le h3 (Nat.le_trans (by simp) g.size), h4, fun e => ?_, (World.cell?_of_block hbk).trans h6, (World.cell?_of_block hbk).trans h7⟩
  rcases hat b1 e with h | h
  · exact h5 h
  · omega

theorem D5.elems {b1 g n cap : Nat} {d : Ed} {l : List Int} {w x : World} (h : D5 b1 d (.slice (some ⟨g, 0, none⟩) n cap) l w x) : Elems x (some ⟨g, 0, none⟩) l.length (fun j => .int .i64 (l.getD j 0)) := by
  obtain ⟨A, cap2, e, he⟩ := elems_ints h.2.1
  simp only [Value.slice.injEq] at e
  rw [e.1]
  exact he
set_option maxHeartbeats 8000000 in
set_option maxRecDepth 100000 in
theorem tail5 (w0 : World) (r : List Ed) (rv : Value) (hr : RowAt w0 rv r) (hn : r.length ≤ 1024) (W3 : World) (b03 : Below w0.heap.size w0 W3) (c : Cfg) (sa : Addr) (her : c.er = .iface 62 (.pointer (some sa)))
    (k ends : Nat) (lv : Value) (log : List Int) (base : Nat) (hx : XB c k ends lv W3) (hl : W3.ownsRow base 3 1 lv log.length (ints log)) (cs : List Bool) (hcl : cs.length = r.length) (err : Value)
    (hgd : Good (eds r)) (hrun : RunEnd c (eds r) cs log err) (cb : Nat) (w : World) (b3 : Below W3.heap.size W3 w) (hc : w.heap[cb]? = some (.cells (bools cs).toArray 4 (0, 0)))
    (u0 u1 u2 u3 u4 u5 u6 u7 u8 u9 u10 u11 u12 u13 u14 u15 u16 u17 u18 u19 u20 u21 u22 u24 u27 u28 u32 u33 u34 u35 u36 u37 u38 u39 u40 u41 u42 u43 u44 u45 u46 u47 u48 u49 u50 u51 u52 u53 u54 u55 u56 u57 u58 u59 u60 u61 u62 u63 u64 u65 u66 u67 u68 u69 u70 u71 u72 u73 u74 u75 u76 u77 u78 u79 u80 u81 u82 u83 u84 u85 u86 u87 u88 u89 u90 u91 u92 u93 u94 u95 u96 u97 u98 u99 u100 u101 u102 u103 u104 u105 u106 u107 u108 u109 u110 u111 u112 u113 u114 u115 u116 u117 u118 u119 u120 u121 u122 u123 u124 u125 u126 u127 u128 u129 u130 u131 u132 u133 u134 u135 u136 u137 u138 u139 u140 u141 u142 u143 u144 u145 u146 u147 u148 u149 u150 u151 u152 u153 u154 u155 u156 u157 u158 u159 u160 u161 u162 u163 u164 u165 u166 u167 u168 u169 u170 u171 u172 u173 u174 u175 u176 u177 u178 u179 u180 u181 u182 u183 u184 u185 u186 u187 u188 u189 u190 u191 u192 u193 u194 u195 u196 u197 u198 u199 u200 u201 u202 u203 u204 u205 u206 u207 u208 u209 u210 u211 u212 u213 u214 u215 u216 u217 u218 u219 u220 u221 u222 u223 u224 u225 u226 u227 u228 u229 u230 u231 u232 u233 u234 u235 u236 u237 u238 u239 u240 u241 u242 u243 u244 u245 u246 u247 u248 u249 u250 u251 u252 u253 u254 u255 u256 u257 u258 u259 u260 u261 u262 u263 u264 u265 u266 u267 u268 u269 u270 u271 u272 u273 u274 u275 u276 u277 u278 u279 u280 u281 u282 u283 u284 u285 u286 u287 u288 u289 u290 u291 u292 u293 u294 u295 u296 u297 u298 u299 u300 u301 u302 u303 u304 u305 u306 u307 u308 u309 u310 u311 u312 u313 u314 u315 u316 u317 u318 u319 u320 u321 u322 u323 u324 u325 u326 : Value) :
    (tailC 23 Ybaf.f3).wp Ybaf.prog (bodyPost Ybaf.prog Ybaf.f3 fun e w' => LawEnd w0 e w') ⟨#[u0, u1, u2, u3, u4, u5, u6, u7, u8, u9, u10, u11, u12, u13, u14, u15, u16, u17, u18, u19, u20, u21, u22, rv, u24, .iface 62 (.pointer (some sa)), .pointer (some ⟨c.xb, 0, none⟩), u27, u28, err, .int .i64 r.length, .slice (some ⟨cb, 0, none⟩) r.length r.length, u32, u33, u34, u35, u36, u37, u38, u39, u40, u41, u42, u43, u44, u45, u46, u47, u48, u49, u50, u51, u52, u53, u54, u55, u56, u57, u58, u59, u60, u61, u62, u63, u64, u65, u66, u67, u68, u69, u70, u71, u72, u73, u74, u75, u76, u77, u78, u79, u80, u81, u82, u83, u84, u85, u86, u87, u88, u89, u90, u91, u92, u93, u94, u95, u96, u97, u98, u99, u100, u101, u102, u103, u104, u105, u106, u107, u108, u109, u110, u111, u112, u113, u114, u115, u116, u117, u118, u119, u120, u121, u122, u123, u124, u125, u126, u127, u128, u129, u130, u131, u132, u133, u134, u135, u136, u137, u138, u139, u140, u141, u142, u143, u144, u145, u146, u147, u148, u149, u150, u151, u152, u153, u154, u155, u156, u157, u158, u159, u160, u161, u162, u163, u164, u165, u166, u167, u168, u169, u170, u171, u172, u173, u174, u175, u176, u177, u178, u179, u180, u181, u182, u183, u184, u185, u186, u187, u188, u189, u190, u191, u192, u193, u194, u195, u196, u197, u198, u199, u200, u201, u202, u203, u204, u205, u206, u207, u208, u209, u210, u211, u212, u213, u214, u215, u216, u217, u218, u219, u220, u221, u222, u223, u224, u225, u226, u227, u228, u229, u230, u231, u232, u233, u234, u235, u236, u237, u238, u239, u240, u241, u242, u243, u244, u245, u246, u247, u248, u249, u250, u251, u252, u253, u254, u255, u256, u257, u258, u259, u260, u261, u262, u263, u264, u265, u266, u267, u268, u269, u270, u271, u272, u273, u274, u275, u276, u277, u278, u279, u280, u281, u282, u283, u284, u285, u286, u287, u288, u289, u290, u291, u292, u293, u294, u295, u296, u297, u298, u299, u300, u301, u302, u303, u304, u305, u306, u307, u308, u309, u310, u311, u312, u313, u314, u315, u316, u317, u318, u319, u320, u321, u322, u323, u324, u325, u326], []⟩ w := by
  obtain ⟨i0, hi, hz0, hz1, hz2⟩ := info_parts Ybaf.info3
  have b0w : Below w0.heap.size w0 w := b03.trans (b3.mono b03.size)
  have hrw : RowAt w rv r := hr.below b0w
  obtain ⟨a, ca, rfl, hrow⟩ := hrw
  have HC : Hid (w.heap[cb]? = some (.cells (bools cs).toArray 4 (0, 0))) := hc
  have HR : Hid (0 < r.length → ∃ b o, a = some ⟨b, o, none⟩ ∧ b < w.heap.size ∧ ∀ j, j < r.length → EdAt w b (o + j * 4) (r.getD j Ed.d)) := hrow
  have HB : Hid (Below w0.heap.size w0 w) := b0w
  have HL : Hid (W3.ownsRow base 3 1 lv log.length (ints log)) := hl
  have HRUN : Hid (RunEnd c (eds r) cs log err) := hrun
  have HGd : Hid (Good (eds r)) := hgd
  have HX : Hid (XB c k ends lv W3) := hx
  have H3 : Hid (Below W3.heap.size W3 w) := b3
  have HER : Hid (c.er = .iface 62 (.pointer (some sa))) := her
  clear hc hrow b0w hl hrun hgd hx b3 her hr b03
  refine wp_tail (n := 23) (f := Ybaf.f3) rfl ?_
  go_wp2
  go_loopw [42, 43, 44, 260] (fun v42 v43 v44 v260 wr => RelW c (eds r) cs w v42 v43 v44 v260 wr) (fun _ _ _ v260 _ => r.length - (intOf v260).toNat)
  case atStart => exact ⟨0, Nat.zero_le _, rfl, rfl, rfl, fun j hj => absurd hj (by omega), World.ownsRow_nil _ _ _ _, Below.refl _ _⟩
  case round =>
    obtain ⟨i, hin, rfl, rfl, rfl, hns, hown, hbel⟩ := hrel
    have HNS : Hid (∀ j, j < i → ¬ StopsAt (eds r) cs c.fail j) := hns
    have HO : Hid (wr.ownsRow w.heap.size 3 1 u42 (rLog (eds r) cs i).length (ints (rLog (eds r) cs i))) := hown
    have HW : Hid (Below w.heap.size w wr) := hbel
    have hsz := hbel.size
    have hl1 := rLog_length (eds r) cs i
    have hl2 := rEnds_le (eds r) cs i
    have hin' : i ≤ r.length := hin
    have lcb : cb < w.heap.size := lt_of_block HC.out
    clear hns hown hbel hin
    by_cases hlt : i < r.length
    · obtain ⟨b, o, rfl, hb, hed⟩ := HR.out (by omega)
      obtain ⟨hop, e0, ⟨ov, e1, oa, oc, rfl, hob, hoe⟩, e2, e3⟩ := (hed i hlt).below hb HW.out
      have hcc : wr.cell? ⟨cb, i, none⟩ = some (.bool (csAt cs i)) := by
        rw [HW.out.cell (p := ⟨cb, i, none⟩) lcb, cell_of HC.out i]
        simp [bools, csAt, List.getD_eq_getElem?_getD, List.getElem?_eq_getElem (show i < cs.length by omega)]
      have hlb : b < wr.heap.size := Nat.lt_of_lt_of_le hb hsz
      have HG4 : Hid ((eds r).op i ≤ 3) := HGd.out i hlt
      obtain ⟨d, hd⟩ : ∃ d, r.getD i Ed.d = d := ⟨_, rfl⟩
      rw [hd] at hop e0 e1 e2 e3
      have HD : Hid (r.getD i Ed.d = d) := hd
      clear hed hob hoe hd
      have hcw : cb < wr.heap.size := Nat.lt_of_lt_of_le lcb hsz
      cases hci : csAt cs i
      · rw [hci] at hcc
        go_wp2
        go_roundw
        case rel =>
          have hL : rLog (eds r) cs (i + 1) = rLog (eds r) cs i := if_neg (by rw [hci]; decide)
          have hE : rEnds (eds r) cs (i + 1) = rEnds (eds r) cs i := if_neg (by rw [hci]; decide)
          refine ⟨i + 1, hlt, by go_num, by rw [hE], by rw [tkn_succ, hci, Bool.or_false], fun j hj => ?_, ?_, ?_⟩
          · by_cases e : j = i
            · subst e; intro hsp; rw [hsp.1] at hci; cases hci
            · exact HNS.out j (by omega)
          · rw [hL]; exact HO.out.alloc _
          · exact HW.out.alloc hsz _
        case measure => simp [intOf]; omega
      · rw [hci] at hcc
        have hopE : (eds r).op i = opOf d.op := by show opOf (r.getD i Ed.d).op = opOf d.op; rw [HD.out]
        have hkE : (eds r).keep i = d.keep := by show (r.getD i Ed.d).keep = d.keep; rw [HD.out]
        have htE : (eds r).tg i = d.tg := by show (r.getD i Ed.d).tg = d.tg; rw [HD.out]
        have HLn : Hid (rLog (eds r) cs (i + 1) = rLog (eds r) cs i ++ takeLog (opOf d.op) d.keep d.tg ∧ rEnds (eds r) cs (i + 1) = nextEnds d.keep (rEnds (eds r) cs i)) := by
          refine ⟨?_, ?_⟩
          · rw [← hopE, ← hkE, ← htE]; exact if_pos hci
          · rw [← hkE]; exact if_pos hci
        have HKE : Hid ((eds r).keep i = d.keep) := hkE
        have ho4 : opOf d.op ≤ 3 := by rw [← hopE]; exact HG4.out
        have H16 : Hid (opOf d.op = d.op % 4) := by
          show opOf d.op = d.op % 4
          unfold opOf at ho4 ⊢
          split at ho4
          · omega
          · rename_i h; rw [if_neg h]; omega
        have hdn : Hid (D5 wr.heap.size d u42 (rLog (eds r) cs i) w (wr.alloc (.cells #[.int .u8 d.op, .slice oa d.oth.length oc, .int .i64 d.tg, .bool d.keep] 28))) := D5.new HW.out HO.out _ _
        clear hopE hkE htE ho4
        go_upto_if 274 with fail
        go_cut [42, 274] (fun v42 v274 wc => ∃ l, l = rLog (eds r) cs i ++ (if opOf d.op = 2 then [2, d.tg] else []) ∧ D5 wr.heap.size d v42 l w wc)
        case first =>
          by_cases h2 : d.op % 4 = 2
          · have t1 : ((d.op : Int) % 16 % 4 == 2) = true := by rw [beq_iff_eq]; omega
            have t2 : ((d.op : Int) % 4 == 2) = true := by rw [beq_iff_eq]; omega
            have HI : Hid ((if opOf d.op = 2 then [2, d.tg] else []) = [2, d.tg]) := if_pos (by rw [H16.out]; exact h2)
            clear h2
            generalize wr.alloc (.cells #[.int .u8 d.op, .slice oa d.oth.length oc, .int .i64 d.tg, .bool d.keep] 28) = x at hdn ⊢
            have y2 := hdn.out.2.2.2.2.2.1
            have xs := hdn.out.1.size
            have xb1 := hdn.out.2.2.1
            go_wp2_with (at_builtin; refine wpList_append_lies _ rfl _ _ 31 rfl w.heap.size 3 i0 (.int .i64 0) 1 8 Ybaf.underlying31 hi hz0 hz1 hz2 rfl (by omega) u42 (rLog (eds r) cs i).length (ints (rLog (eds r) cs i)) rfl ((hdn.out.2.1).alloc _) ⟨x.heap.size, 0, none⟩ 2 2 (ints [2, d.tg]) rfl rfl (news2 x 2 d.tg) (ints_one _) (by omega) (by unfold maxLen; omega) (by omega) (by simp; omega) _ rfl ?_)
            intro g cap w2 hown hgrow hat hlt2
            have hd2 : Hid (D5 wr.heap.size d (.slice (some ⟨g, 0, none⟩) ((rLog (eds r) cs i).length + 2) cap) (rLog (eds r) cs i ++ [2, d.tg]) w w2) := hdn.out.append _ hgrow hown (fun i hi => hat_le (hat_of hat i hi) (by first | omega | (simp; omega)))
            clear hown hgrow hat hlt2 y2
            go_wp2
            go_meet
            case rel => exact ⟨_, by rw [HI.out], hd2.out⟩
          · have t1 : ((d.op : Int) % 16 % 4 == 2) = false := by rw [beq_eq_false_iff_ne]; omega
            have t2 : ((d.op : Int) % 4 == 2) = false := by rw [beq_eq_false_iff_ne]; omega
            have HI : Hid ((if opOf d.op = 2 then [2, d.tg] else []) = []) := if_neg (by rw [H16.out]; exact h2)
            clear h2
            go_wp2
            go_meet
            case rel => exact ⟨_, by rw [HI.out, List.append_nil], hdn.out⟩
        case rest =>
          obtain ⟨l, hl, hd5⟩ := hcut
          have HD5 : Hid (D5 wr.heap.size d u42 l w wc) := hd5
          have HLL : Hid (rLog (eds r) cs (i + 1) = l ++ nextLog d.keep d.tg) := by
            show rLog (eds r) cs (i + 1) = l ++ nextLog d.keep d.tg
            rw [HLn.out.1, take_two, hl, List.append_assoc]
          have hl3 : l.length ≤ 5000 := by
            have h1 := hl1
            have : (eds r).n = r.length := rfl
            rw [hl, List.length_append]
            split <;> simp <;> omega
          have y2 := hd5.2.2.2.2.2.1
          have y3 := hd5.2.2.2.2.2.2
          have xs := hd5.1.size
          have xb1 := hd5.2.2.1
          clear hl hd5
          cases hkp : d.keep
          · rw [hkp] at y3
            go_wp2_with (at_builtin; refine wpList_append_lies _ rfl _ _ 31 rfl w.heap.size 3 i0 (.int .i64 0) 1 8 Ybaf.underlying31 hi hz0 hz1 hz2 rfl (by omega) u42 l.length (ints l) rfl ((HD5.out.2.1).alloc _) ⟨wc.heap.size, 0, none⟩ 2 2 (ints [1, d.tg]) rfl rfl (news2 wc 1 d.tg) (ints_one _) (by omega) (by unfold maxLen; omega) (by omega) (by simp; omega) _ rfl ?_)
            intro g cap w2 hown hgrow hat hlt2
            have hd2 : Hid (D5 wr.heap.size d (.slice (some ⟨g, 0, none⟩) (l.length + 2) cap) (l ++ [1, d.tg]) w w2) := HD5.out.append _ hgrow hown (fun i hi => hat_le (hat_of hat i hi) (by first | omega | (simp; omega)))
            have B3 : Hid (Below W3.heap.size W3 w2) := H3.out.trans (hd2.out.1.mono H3.out.size)
            have B0 : Hid (Below w0.heap.size w0 w2) := HB.out.trans (hd2.out.1.mono HB.out.size)
            have lx : c.xb < W3.heap.size := lt_of_block HX.out
            have xf : w2.cell? ⟨c.xb, 2, none⟩ = some (.int .i64 c.fail) := (B3.out.cell (p := ⟨c.xb, 2, none⟩) lx).trans ((cell_of HX.out 2).trans rfl)
            have HKN : Hid (rLog (eds r) cs (i + 1) = l ++ [1, d.tg]) := by
              show rLog (eds r) cs (i + 1) = l ++ [1, d.tg]
              rw [HLL.out, hkp]; rfl
            have HKF : Hid ((eds r).keep i = false) := by rw [← hkp]; exact HKE.out
            clear hown hgrow hat hlt2 y2 y3
            by_cases hst : rEnds (eds r) cs i = c.fail
            · obtain ⟨e1, e2⟩ := run_stop HRUN.out hlt HNS.out ⟨hci, HKF.out, hst⟩
              rw [HER.out] at e2
              subst e2
              obtain ⟨A, ca2, rfl, hA⟩ := elems_eq HL.out (e1.trans HKN.out) (n := l.length + 2) (by simp) B3.out
              have xl : w2.cell? ⟨c.xb, 4, none⟩ = some (.slice A (l.length + 2) ca2) := (B3.out.cell (p := ⟨c.xb, 4, none⟩) lx).trans ((cell_of HX.out 4).trans rfl)
              have HA : Hid (Elems w2 A (l.length + 2) (fun j => .int .i64 ((l ++ [1, d.tg]).getD j 0))) := hA
              have HE2 : Hid (Elems w2 (some ⟨g, 0, none⟩) (l.length + 2) (fun j => .int .i64 ((l ++ [1, d.tg]).getD j 0))) := by
                have := hd2.out.elems
                rw [List.length_append] at this
                exact this
              have ts : ((rEnds (eds r) cs i : Int) == (c.fail : Int)) = true := by rw [beq_iff_eq, hst]
              clear hA e1 hst
              go_wp2_with (first | (go_at_call 10; refine (is_same sa _).mono ?_; rintro e w' ⟨rfl, rfl⟩) | (go_at_call 11; refine (equal_any A (some ⟨g, 0, none⟩) (l.length + 2) ca2 cap (fun j => (l ++ [1, d.tg]).getD j 0) _ HA.out HE2.out (by omega)).mono ?_; rintro e w' ⟨rfl, m, rfl⟩))
              go_ret
              exact ⟨rfl, B0.out.trans ⟨rfl, rfl, rfl, Nat.le_refl _, fun _ _ => rfl⟩⟩
            · have ts : ((rEnds (eds r) cs i : Int) == (c.fail : Int)) = false := by rw [beq_eq_false_iff_ne]; omega
              have HST : Hid (¬ rEnds (eds r) cs i = c.fail) := hst
              clear hst
              go_wp2
              go_roundw
              case rel =>
                refine ⟨i + 1, hlt, by go_num, ?_, by rw [tkn_succ, hci, Bool.or_true], fun j hj => ?_, ?_, hd2.out.1⟩
                · rw [HLn.out.2, hkp]; go_num
                · by_cases e : j = i
                  · subst e; intro hsp; exact HST.out hsp.2.2
                  · exact HNS.out j (by omega)
                · rw [HKN.out]; have := hd2.out.2.1; exact this
              case measure => simp [intOf]; omega
          · rw [hkp] at y3
            go_wp2_with (at_builtin; refine wpList_append_lies _ rfl _ _ 31 rfl w.heap.size 3 i0 (.int .i64 0) 1 8 Ybaf.underlying31 hi hz0 hz1 hz2 rfl (by omega) u42 l.length (ints l) rfl ((HD5.out.2.1).alloc _) ⟨wc.heap.size, 0, none⟩ 2 2 (ints [3, d.tg]) rfl rfl (news2 wc 3 d.tg) (ints_one _) (by omega) (by unfold maxLen; omega) (by omega) (by simp; omega) _ rfl ?_)
            intro g cap w2 hown hgrow hat hlt2
            have hd2 : Hid (D5 wr.heap.size d (.slice (some ⟨g, 0, none⟩) (l.length + 2) cap) (l ++ [3, d.tg]) w w2) := HD5.out.append _ hgrow hown (fun i hi => hat_le (hat_of hat i hi) (by first | omega | (simp; omega)))
            have HKN : Hid (rLog (eds r) cs (i + 1) = l ++ [3, d.tg]) := by
              show rLog (eds r) cs (i + 1) = l ++ [3, d.tg]
              rw [HLL.out, hkp]; rfl
            have HKF : Hid ((eds r).keep i = true) := by rw [← hkp]; exact HKE.out
            clear hown hgrow hat hlt2 y2 y3
            go_wp2
            go_roundw
            case rel =>
              refine ⟨i + 1, hlt, by go_num, ?_, by rw [tkn_succ, hci, Bool.or_true], fun j hj => ?_, ?_, hd2.out.1⟩
              · rw [HLn.out.2, hkp]; rfl
              · by_cases e : j = i
                · subst e; intro hsp; have := hsp.2.1; rw [HKF.out] at this; cases this
                · exact HNS.out j (by omega)
              · rw [HKN.out]; have := hd2.out.2.1; exact this
            case measure => simp [intOf]; omega
    · obtain rfl : i = r.length := by omega
      obtain ⟨e1, e2⟩ := run_on HRUN.out HNS.out
      subst e2
      have hT : tkn cs r.length = !(cs.all fun b => !b) := by rw [← hcl]; exact tkn_all cs
      obtain ⟨bb, hbb⟩ : ∃ b, (cs.all fun b => !b) = b := ⟨_, rfl⟩
      rw [hbb] at hT e1
      obtain ⟨l, hl⟩ : ∃ l, rLog (eds r) cs r.length = l := ⟨_, rfl⟩
      have e1' : log = l ++ (if bb = true then [0, 0] else []) := by rw [← hl]; exact e1
      rw [hl] at HO hl1
      have HE1 : Hid (log = l ++ (if bb = true then [0, 0] else [])) := e1'
      have lx : c.xb < W3.heap.size := lt_of_block HX.out
      have hl3 : l.length ≤ 5000 := by omega
      clear e1 e1' hbb hl
      cases bb
      · have hT' : tkn cs r.length = true := hT
        obtain ⟨A2, cap2, rfl, hB2⟩ := elems_eq HO.out rfl rfl (Below.refl _ _)
        have B3 : Hid (Below W3.heap.size W3 wr) := H3.out.trans (HW.out.mono H3.out.size)
        have B0 : Hid (Below w0.heap.size w0 wr) := HB.out.trans (HW.out.mono HB.out.size)
        obtain ⟨A, ca2, rfl, hA⟩ := elems_eq HL.out (HE1.out.trans (by simp)) (n := l.length) rfl B3.out
        have xl : wr.cell? ⟨c.xb, 4, none⟩ = some (.slice A l.length ca2) := (B3.out.cell (p := ⟨c.xb, 4, none⟩) lx).trans ((cell_of HX.out 4).trans rfl)
        have HA : Hid (Elems wr A l.length (fun j => .int .i64 (l.getD j 0))) := hA
        have HA2 : Hid (Elems wr A2 l.length (fun j => .int .i64 (l.getD j 0))) := hB2
        clear hA hB2 hT
        go_wp2_with (first | (go_at_call 11; refine (equal_any A A2 l.length ca2 cap2 (fun j => l.getD j 0) _ HA.out HA2.out (by omega)).mono ?_; rintro e w' ⟨rfl, m, rfl⟩))
        go_ret
        exact ⟨rfl, B0.out.trans ⟨rfl, rfl, rfl, Nat.le_refl _, fun _ _ => rfl⟩⟩
      · have hT' : tkn cs r.length = false := hT
        clear hT
        go_wp2_with (at_builtin; refine wpList_append_lies _ rfl _ _ 31 rfl w.heap.size 3 i0 (.int .i64 0) 1 8 Ybaf.underlying31 hi hz0 hz1 hz2 rfl (by omega) u42 l.length (ints l) rfl (HO.out.alloc _) ⟨wr.heap.size, 0, none⟩ 2 2 (ints [0, 0]) rfl rfl (news2 wr 0 0) (ints_one _) (by omega) (by unfold maxLen; omega) (by omega) (by simp; omega) _ rfl ?_)
        intro g cap w2 hown hgrow hat hlt2
        have hW2 : Below w.heap.size w w2 := (HW.out.alloc hsz _).grown hgrow (by simp; omega) (fun k hk => (HO.out.lt k hk).1)
        have hown2 : w2.ownsRow w.heap.size 3 1 (.slice (some ⟨g, 0, none⟩) (l.length + 2) cap) (l ++ [0, 0]).length (ints (l ++ [0, 0])) := by rw [List.length_append, ints_append]; exact hown
        obtain ⟨A2, cap2, hv2, hB2⟩ := elems_eq hown2 rfl (n := l.length + 2) (by simp) (Below.refl _ _)
        simp only [Value.slice.injEq] at hv2
        have B3 : Hid (Below W3.heap.size W3 w2) := H3.out.trans (hW2.mono H3.out.size)
        have B0 : Hid (Below w0.heap.size w0 w2) := HB.out.trans (hW2.mono HB.out.size)
        obtain ⟨A, ca2, rfl, hA⟩ := elems_eq HL.out (HE1.out.trans (by simp : _ = l ++ [0, 0])) (n := l.length + 2) (by simp) B3.out
        have xl : w2.cell? ⟨c.xb, 4, none⟩ = some (.slice A (l.length + 2) ca2) := (B3.out.cell (p := ⟨c.xb, 4, none⟩) lx).trans ((cell_of HX.out 4).trans rfl)
        have HA : Hid (Elems w2 A (l.length + 2) (fun j => .int .i64 ((l ++ [0, 0]).getD j 0))) := hA
        have HA2 : Hid (Elems w2 (some ⟨g, 0, none⟩) (l.length + 2) (fun j => .int .i64 ((l ++ [0, 0]).getD j 0))) := by rw [hv2.1]; exact hB2
        clear hA hB2 hv2 hown hown2 hgrow hat hlt2 hW2
        go_wp2_with (first | (go_at_call 11; refine (equal_any A (some ⟨g, 0, none⟩) (l.length + 2) ca2 cap (fun j => (l ++ [0, 0]).getD j 0) _ HA.out HA2.out (by omega)).mono ?_; rintro e w' ⟨rfl, m, rfl⟩))
        go_ret
        exact ⟨rfl, B0.out.trans ⟨rfl, rfl, rfl, Nat.le_refl _, fun _ _ => rfl⟩⟩

end Go.Proofs.YbulkcwciFmt
