import Derived.Test.YbulkcwciFmtTail2
import Derived.Deep.MidRow
namespace Go.Proofs.YbulkcwciFmt
open Go.RowKit Go.Deep Go.Extern.Stop Go.Stop Go.Extern

theorem Ybaf.info40 : (Ybaf.prog.info? 40).map (fun i => (i.zero, i.size, i.bytes)) = some (some (.agg #[.int .i64 0, .int .i64 0, .int .i64 0, .pointer none, .nilIface, .slice none 0 0, .int .i64 0, .bool false]), 8, 88) := by kernel_rfl
theorem Ybaf.info42 : (Ybaf.prog.info? 42).map (fun i => (i.zero, i.size, i.bytes)) = some (some (.agg #[.int .i64 0, .int .i64 0, .int .i64 0, .int .i64 0, .slice none 0 0, .bool false]), 6, 64) := by kernel_rfl

/-- The others' block lies behind the edges' block. -/
def ObGt (w : World) (eb j : Nat) : Prop := ∀ ob n c, w.cell? ⟨eb, j * 8 + 5, none⟩ = some (.slice (some ⟨ob, 0, none⟩) n c) → eb < ob
def LocB2 (w : World) (lb i : Nat) (r : List Ed) : Prop :=
  ∃ eb, w.cell? ⟨lb, i * 6 + 4, none⟩ = some (.slice (some ⟨eb, 0, none⟩) r.length r.length) ∧ eb < w.heap.size ∧ lb < eb ∧ ∀ j, j < r.length → EdB w eb j (eds r) ∧ ObGt w eb j
theorem LocB2.plain {w : World} {lb i : Nat} {r : List Ed} (h : LocB2 w lb i r) : LocB w lb i r := by
  obtain ⟨eb, h1, h2, h3, h4⟩ := h
  exact ⟨eb, h1, h2, fun j hj => (h4 j hj).1⟩
theorem EdB.keep {w w' : World} {eb j : Nat} {E : Eds} (h : EdB w eb j E) (hg : ObGt w eb j) (hs : w.heap.size ≤ w'.heap.size) (hb : ∀ k, eb < k → k < w.heap.size → w'.heap[k]? = w.heap[k]?) (hc : ∀ t, t < 8 → w'.cell? ⟨eb, j * 8 + t, none⟩ = w.cell? ⟨eb, j * 8 + t, none⟩) : EdB w' eb j E ∧ ObGt w' eb j := by
  obtain ⟨h1, h2, h3, h4, h5, ob, h6, h7, h8⟩ := h
  have g := hg ob _ _ h6
  have c0 := hc 0 (by omega)
  exact ⟨⟨c0.trans h1, (hc 1 (by omega)).trans h2, (hc 2 (by omega)).trans h3, (hc 6 (by omega)).trans h4, (hc 7 (by omega)).trans h5, ob, (hc 5 (by omega)).trans h6, Nat.lt_of_lt_of_le h7 hs, fun m hm => (World.cell?_of_block (hb ob g h7)).trans (h8 m hm)⟩, fun ob n c e => hg ob n c ((hc 5 (by omega)).symm.trans e)⟩
theorem LocB2.keep {w w' : World} {lb i : Nat} {r : List Ed} (h : LocB2 w lb i r) (hs : w.heap.size ≤ w'.heap.size) (hb : ∀ k, lb < k → k < w.heap.size → w'.heap[k]? = w.heap[k]?) (hc : w'.cell? ⟨lb, i * 6 + 4, none⟩ = w.cell? ⟨lb, i * 6 + 4, none⟩) : LocB2 w' lb i r := by
  obtain ⟨eb, h1, h2, h3, h4⟩ := h
  exact ⟨eb, hc.trans h1, Nat.lt_of_lt_of_le h2 hs, h3, fun j hj => (h4 j hj).1.keep (h4 j hj).2 hs (fun k hk hk2 => hb k (by omega) hk2) (fun t _ => World.cell?_of_block (hb eb h3 h2))⟩

def Rel3L (L : List (List Ed)) (lb : Nat) (W : World) (v84 : Value) (wr : World) : Prop :=
  ∃ i, i ≤ L.length ∧ v84 = .int .i64 i ∧ Below W.heap.size W wr ∧ (∃ cur, wr.heap[lb]? = some (.cells cur 42 (0, 0)) ∧ cur.size = L.length * 6) ∧ ∀ k, k < i → LocB2 wr lb k (L.getD k [])
def Rel4L (r : List Ed) (eb : Nat) (W : World) (v94 : Value) (wr : World) : Prop :=
  ∃ j, j ≤ r.length ∧ v94 = .int .i64 j ∧ Below W.heap.size W wr ∧ (∃ cur, wr.heap[eb]? = some (.cells cur 40 (0, 0)) ∧ cur.size = r.length * 8) ∧ ∀ k, k < j → EdB wr eb k (eds r) ∧ ObGt wr eb k
/-- The others behind m of them. -/
def row5 (oth : List Nat) (n m : Nat) : List Int := ((oth.take m).map fun o => ((o % n : Nat) : Int)) ++ List.replicate (oth.length - m) 0
theorem row5_zero (oth : List Nat) (n : Nat) : row5 oth n 0 = List.replicate oth.length 0 := by simp [row5]
theorem row5_all (oth : List Nat) (n : Nat) : row5 oth n oth.length = oth.map fun o => ((o % n : Nat) : Int) := by simp [row5]
theorem row5_length (oth : List Nat) (n m : Nat) (h : m ≤ oth.length) : (row5 oth n m).length = oth.length := by simp [row5]; omega
theorem row5_set (oth : List Nat) (n m : Nat) (h : m < oth.length) : (row5 oth n m).set m ((oth.getD m 0 % n : Nat) : Int) = row5 oth n (m + 1) := by
  unfold row5
  obtain ⟨k, hk⟩ : ∃ k, oth.length - m = k + 1 := ⟨oth.length - m - 1, by omega⟩
  have hl : ((oth.take m).map fun o => ((o % n : Nat) : Int)).length = m := by simp; omega
  rw [List.set_append_right _ _ (by rw [hl]; exact Nat.le_refl _), hl, Nat.sub_self, hk, List.replicate_succ, List.set_cons_zero, List.take_add_one, List.getElem?_eq_getElem h, List.getD_eq_getElem?_getD, List.getElem?_eq_getElem h, show oth.length - (m + 1) = k by omega, List.map_append, List.append_assoc]
  rfl
theorem ints_set (l : List Int) (i : Nat) (v : Int) : (ints l).toArray.setIfInBounds i (.int .i64 v) = (ints (l.set i v)).toArray := by
  simp [ints, List.map_set]
def Rel5L (oth : List Nat) (n ob : Nat) (W : World) (v106 : Value) (wr : World) : Prop :=
  ∃ m, m ≤ oth.length ∧ v106 = .int .i64 m ∧ Below ob W wr ∧ wr.heap[ob]? = some (.cells (ints (row5 oth n m)).toArray 3 (0, 0))
theorem ints_get (l : List Int) (j : Nat) (hj : j < l.length) : (ints l).toArray[j]? = some (.int .i64 (l.getD j 0)) := by
  simp [ints, List.getD_eq_getElem?_getD, List.getElem?_eq_getElem hj]
theorem setCells_size (b : Nat) : ∀ (vs : List Value) (o : Nat) (w : World), (w.setCells b o vs).heap.size = w.heap.size
  | [], o, w => rfl
  | v :: r, o, w => by rw [World.setCells, setCells_size b r]; simp
theorem setCells_other (b k : Nat) (h : k ≠ b) : ∀ (vs : List Value) (o : Nat) (w : World), (w.setCells b o vs).heap[k]? = w.heap[k]?
  | [], o, w => rfl
  | v :: r, o, w => by rw [World.setCells, setCells_other b k h r]; exact Below.heap_setCell _ _ _ _ h
theorem setCells_block (b : Nat) (t : TypeId) : ∀ (vs : List Value) (o : Nat) (w : World) (cur : Array Value), w.heap[b]? = some (.cells cur t (0, 0)) → ∃ cur', (w.setCells b o vs).heap[b]? = some (.cells cur' t (0, 0)) ∧ cur'.size = cur.size
  | [], o, w, cur, h => ⟨cur, h, rfl⟩
  | v :: r, o, w, cur, h => by
    rw [World.setCells]
    obtain ⟨cur', h1, h2⟩ := setCells_block b t r (o + 1) _ _ (set_block (j := o) (v := v) h)
    exact ⟨cur', h1, by rw [h2]; simp⟩
theorem setCells_os (b : Nat) : ∀ (vs : List Value) (o : Nat) (w : World), (w.setCells b o vs).os = w.os
  | [], _, _ => rfl
  | v :: r, o, w => by rw [World.setCells, setCells_os b r]; rfl
theorem setCells_tape (b : Nat) : ∀ (vs : List Value) (o : Nat) (w : World), (w.setCells b o vs).tape = w.tape
  | [], _, _ => rfl
  | v :: r, o, w => by rw [World.setCells, setCells_tape b r]; rfl
theorem setCells_output (b : Nat) : ∀ (vs : List Value) (o : Nat) (w : World), (w.setCells b o vs).output = w.output
  | [], _, _ => rfl
  | v :: r, o, w => by rw [World.setCells, setCells_output b r]; rfl
theorem setCells_below {B b o : Nat} {W w : World} (h : Below B W w) (hb : B ≤ b) (vs : List Value) : Below B W (w.setCells b o vs) :=
  ⟨by rw [show (w.setCells b o vs).os = w.os from setCells_os b vs o w]; exact h.os, by rw [show (w.setCells b o vs).tape = w.tape from setCells_tape b vs o w]; exact h.tape, by rw [show (w.setCells b o vs).output = w.output from setCells_output b vs o w]; exact h.output, by rw [setCells_size]; exact h.size, fun k hk => (setCells_other b k (by omega) vs o w).trans (h.block k hk)⟩
/-- The edge j is stored whole. -/
theorem edge_stored {y : World} {eb j n : Nat} {E : Eds} {cur : Array Value} {ob : Nat} {v3 v4 : Value} (hcur : y.heap[eb]? = some (.cells cur 40 (0, 0))) (hs : cur.size = n * 8) (hj : j < n) (hob : ob < y.heap.size) (hgt : eb < ob)
    (hrow : y.heap[ob]? = some (.cells (ints ((E.oth j).map fun o : Nat => (o : Int))).toArray 3 (0, 0))) :
    let y' := y.setCells eb (j * 8) [.int .i64 (E.op j), .int .i64 0, .int .i64 0, v3, v4, .slice (some ⟨ob, 0, none⟩) (E.oth j).length (E.oth j).length, .int .i64 (E.tg j), .bool (E.keep j)]
    EdB y' eb j E ∧ ObGt y' eb j := by
  intro y'
  have hin : ∀ t, t < 8 → (y.cell? ⟨eb, j * 8 + t, none⟩).isSome = true := fun t ht => by
    rw [cell_of hcur, Array.getElem?_eq_getElem (by omega)]
    rfl
  have hc : ∀ t (ht : t < 8), y'.cell? ⟨eb, j * 8 + t, none⟩ = some ([.int .i64 (E.op j), .int .i64 0, .int .i64 0, v3, v4, .slice (some ⟨ob, 0, none⟩) (E.oth j).length (E.oth j).length, .int .i64 (E.tg j), .bool (E.keep j)] : List Value)[t] := fun t ht =>
    World.cell?_setCells_in eb [.int .i64 (E.op j), .int .i64 0, .int .i64 0, v3, v4, .slice (some ⟨ob, 0, none⟩) (E.oth j).length (E.oth j).length, .int .i64 (E.tg j), .bool (E.keep j)] (j * 8) y hin t ht
  have c5 := hc 5 (by omega)
  refine ⟨⟨hc 0 (by omega), hc 1 (by omega), hc 2 (by omega), hc 6 (by omega), hc 7 (by omega), ob, c5, by rw [setCells_size]; exact hob, fun m hm => ?_⟩, fun ob2 n2 c2 e => ?_⟩
  · rw [World.cell?_of_block (w := y) (setCells_other eb ob (by omega) _ _ y), cell_of hrow, ints_get _ _ (by simpa using hm)]
    simp [List.getD_eq_getElem?_getD, List.getElem?_eq_getElem hm]
  · rw [c5] at e
    simp only [Option.some.injEq, List.getElem_cons_succ, List.getElem_cons_zero, Value.slice.injEq, Addr.mk.injEq] at e
    omega
/-- The edges ahead of it are as they were. -/
theorem edge_kept {y : World} {eb j k : Nat} {E : Eds} (h : EdB y eb k E ∧ ObGt y eb k) (hk : k < j) (vs : List Value) : EdB (y.setCells eb (j * 8) vs) eb k E ∧ ObGt (y.setCells eb (j * 8) vs) eb k :=
  h.1.keep h.2 (by rw [setCells_size]; exact Nat.le_refl _) (fun x hx _ => setCells_other eb x (by omega) _ _ y) (fun t ht => World.cell?_setCells_out eb _ _ y _ (fun _ _ => .inl (by show k * 8 + t < j * 8; omega)))
theorem edb_drew {w : World} {eb j : Nat} {E : Eds} (h : EdB w eb j E ∧ ObGt w eb j) : EdB w.drew eb j E ∧ ObGt w.drew eb j := h

set_option maxHeartbeats 8000000 in
set_option maxRecDepth 100000 in
theorem tail1 (F : Interp) (w0 : World) (hF : F.answers w0.tape) (L : List (List Ed)) (LA : Option Addr) (lc : Nat) (hL : LocsAt w0 (.slice LA L.length lc) L) (hn : L.length ≤ 1024) (hfit : Fits L) (W : World) (b02 : Below w0.heap.size w0 W)
    (l : Nat) (hl : l < 65536) (GA : Option Addr) (gl gc : Nat) (G : Nat → Bool) (hgl : gl ≤ 1024) (hga : Elems w0 GA gl (fun j => .bool (G j))) (f : Nat) (hf : f < 256)
    (u4 u5 u6 u7 u8 u9 u10 u11 u12 u13 u14 u15 u16 u17 u18 u19 u20 u21 u22 u23 u24 u25 u26 u27 u28 u29 u30 u31 u32 u33 u34 u35 u36 u37 u38 u39 u40 u41 u42 u43 u44 u45 u46 u47 u48 u49 u50 u51 u52 u53 u54 u55 u56 u57 u58 u59 u60 u61 u62 u63 u64 u65 u66 u67 u68 u69 u70 u71 u72 u73 u74 u75 u76 u77 u78 u79 u80 u81 u82 u83 u84 u85 u86 u87 u88 u89 u90 u91 u92 u93 u94 u95 u96 u97 u98 u99 u100 u101 u102 u103 u104 u105 u106 u107 u108 u109 u110 u111 u112 u113 u114 u115 u116 u117 u118 u119 u120 u121 u122 u123 u124 u125 u126 u127 u128 u129 u130 u131 u132 u133 u134 u135 u136 u137 u138 u139 u140 u141 u142 u143 u144 u145 u146 u147 u148 u149 u150 u151 u152 u153 u154 u155 u156 u157 u158 u159 u160 u161 u162 u163 u164 u165 u166 u167 u168 u169 u170 u171 u172 u173 u174 u175 u176 u177 u178 u179 u180 u181 u182 u183 u184 u185 u186 u187 u188 u189 u190 u191 u192 u193 u194 u195 u196 u197 u198 u199 u200 u201 u202 u203 u204 u205 u206 u207 u208 u209 u210 u211 u212 u213 u214 u215 u216 u217 u218 u219 u220 u221 u222 u223 u224 u225 u226 u227 u228 u229 u230 u231 u232 u233 u234 u235 u236 u237 u238 u239 u240 u241 u242 u243 u244 u245 u246 u247 u248 u249 u250 u251 u252 u253 u254 u255 u256 u257 u258 u259 u260 u261 u262 u263 u264 u265 u266 u267 u268 u269 u270 u271 u272 u273 u274 u275 u276 u277 u278 u279 u280 u281 u282 u283 u284 u285 u286 u287 u288 u289 u290 u291 u292 u293 u294 u295 u296 u297 u298 u299 u300 u301 u302 u303 u304 u305 u306 u307 u308 u309 u310 u311 u312 u313 u314 u315 u316 u317 u318 u319 u320 u321 u322 u323 u324 u325 u326 : Value) :
    (tailC 5 Ybaf.f3).wp Ybaf.prog (bodyPost Ybaf.prog Ybaf.f3 fun e w' => LawEnd w0 e w') ⟨#[.slice LA L.length lc, .int .u16 l, .slice GA gl gc, .int .u8 f, u4, u5, u6, u7, u8, u9, u10, u11, u12, u13, u14, u15, u16, u17, u18, u19, u20, u21, u22, u23, u24, u25, u26, u27, u28, u29, u30, u31, u32, u33, u34, u35, u36, u37, u38, u39, u40, u41, u42, u43, u44, u45, u46, u47, u48, u49, u50, u51, u52, u53, u54, u55, u56, u57, u58, u59, u60, u61, u62, u63, u64, u65, u66, u67, u68, u69, u70, u71, u72, u73, u74, u75, u76, u77, u78, u79, u80, u81, u82, u83, u84, u85, u86, u87, u88, u89, u90, u91, u92, u93, u94, u95, u96, u97, u98, u99, u100, u101, u102, u103, u104, u105, u106, u107, u108, u109, u110, u111, u112, u113, u114, u115, u116, u117, u118, u119, u120, u121, u122, u123, u124, u125, u126, u127, u128, u129, u130, u131, u132, u133, u134, u135, u136, u137, u138, u139, u140, u141, u142, u143, u144, u145, u146, u147, u148, u149, u150, u151, u152, u153, u154, u155, u156, u157, u158, u159, u160, u161, u162, u163, u164, u165, u166, u167, u168, u169, u170, u171, u172, u173, u174, u175, u176, u177, u178, u179, u180, u181, u182, u183, u184, u185, u186, u187, u188, u189, u190, u191, u192, u193, u194, u195, u196, u197, u198, u199, u200, u201, u202, u203, u204, u205, u206, u207, u208, u209, u210, u211, u212, u213, u214, u215, u216, u217, u218, u219, u220, u221, u222, u223, u224, u225, u226, u227, u228, u229, u230, u231, u232, u233, u234, u235, u236, u237, u238, u239, u240, u241, u242, u243, u244, u245, u246, u247, u248, u249, u250, u251, u252, u253, u254, u255, u256, u257, u258, u259, u260, u261, u262, u263, u264, u265, u266, u267, u268, u269, u270, u271, u272, u273, u274, u275, u276, u277, u278, u279, u280, u281, u282, u283, u284, u285, u286, u287, u288, u289, u290, u291, u292, u293, u294, u295, u296, u297, u298, u299, u300, u301, u302, u303, u304, u305, u306, u307, u308, u309, u310, u311, u312, u313, u314, u315, u316, u317, u318, u319, u320, u321, u322, u323, u324, u325, u326], []⟩ W := by
  obtain ⟨i40, hi40, hz40, hs40, hb40⟩ := info_parts Ybaf.info40
  obtain ⟨i42, hi42, hz42, hs42, hb42⟩ := info_parts Ybaf.info42
  obtain ⟨i3, hi3, hz3, hs3, hb3⟩ := info_parts Ybaf.info3
  have HF : Hid (F.answers w0.tape) := hF
  have HL : Hid (LocsAt w0 (.slice LA L.length lc) L) := hL
  have HFIT : Hid (Fits L) := hfit
  have B02 : Hid (Below w0.heap.size w0 W) := b02
  have HGA : Hid (Elems w0 GA gl (fun j => .bool (G j))) := hga
  clear hF hL hfit b02 hga
  refine wp_tail_k (n := 5) (f := Ybaf.f3) rfl fun K hK => ?_
  go_wp2_with (at_make; refine wpList_make_full _ rfl _ _ 29 rfl W.heap.size 42 i42 _ 6 Ybaf.underlying29 hi42 hz42 hs42 _ _ _ _ L.length rfl rfl rfl rfl (by rw [hb42]; omega) (by unfold maxLen; omega) (Nat.le_refl _) ?_)
  intro w1 hown hgrow
  have HB1 : Hid (Below W.heap.size W w1) := (Below.refl _ _).grown hgrow (Nat.le_refl _) (fun k hk => by cases hk)
  have HC1 : Hid (∃ cur, w1.heap[W.heap.size]? = some (.cells cur 42 (0, 0)) ∧ cur.size = L.length * 6) := ⟨_, made_block hown, by simp [size_madeCells]⟩
  clear hown hgrow
  generalize hlbe : W.heap.size = lb at HC1 ⊢
  have HLB : Hid (W.heap.size = lb) := hlbe
  clear hlbe
  go_wp2
  refine wp_tail_k (n := 6) (f := Ybaf.f3) rfl fun K hK => ?_
  go_wp2
  go_loopw [84] (fun v84 wr => Rel3L L lb W v84 wr) (fun v84 _ => L.length - (intOf v84).toNat)
  case atStart => exact ⟨0, Nat.zero_le _, rfl, HB1.out, HC1.out, fun k hk => absurd hk (by omega)⟩
  case round =>
    obtain ⟨i, hin, rfl, hbel, ⟨cur, hcur, hcs⟩, hlocs⟩ := hrel
    obtain ⟨wA, rfl⟩ : ∃ x, x = wr := ⟨_, rfl⟩
    have HW : Hid (Below W.heap.size W wA) := hbel
    have HCU : Hid (wA.heap[lb]? = some (.cells cur 42 (0, 0))) := hcur
    have HLO : Hid (∀ k, k < i → LocB2 wA lb k (L.getD k [])) := hlocs
    have hsz := hbel.size
    have hlw : lb < wA.heap.size := lt_of_block hcur
    clear hbel hcur hlocs
    by_cases hlt : i < L.length
    · obtain ⟨a2, ca2, hv2, hrow⟩ := HL.out.below (B02.out.trans (HW.out.mono B02.out.size))
      simp only [Value.slice.injEq, true_and] at hv2
      obtain ⟨rfl, rfl⟩ := hv2
      obtain ⟨b, o, rfl, hb, hall⟩ := hrow (by omega)
      obtain ⟨rv, hc, ra, rc, rfl, hrr⟩ := hall i hlt
      have hfi := HFIT.out i hlt
      obtain ⟨r, hre⟩ : ∃ r, L.getD i [] = r := ⟨_, rfl⟩
      rw [hre] at hc hrr hfi
      have HRE : Hid (L.getD i [] = r) := hre
      have HRR : Hid (0 < r.length → ∃ b o, ra = some ⟨b, o, none⟩ ∧ b < wA.heap.size ∧ ∀ j, j < r.length → EdAt wA b (o + j * 4) (r.getD j Ed.d)) := hrr
      have hr1 := hfi.1
      have HO : Hid (∀ j, j < r.length → (r.getD j Ed.d).oth.length ≤ 256) := hfi.2
      clear hall hrow hre hrr hfi
      go_wp2_with (at_make; refine wpList_make_full _ rfl _ _ 30 rfl wA.heap.size 40 i40 _ 8 Ybaf.underlying30 hi40 hz40 hs40 _ _ _ _ r.length rfl rfl rfl rfl (by rw [hb40]; omega) (by unfold maxLen; omega) (Nat.le_refl _) ?_)
      intro w2 hown hgrow
      have HB2 : Hid (Below wA.heap.size wA w2) := (Below.refl _ _).grown hgrow (Nat.le_refl _) (fun k hk => by cases hk)
      have HC2 : Hid (∃ cur, w2.heap[wA.heap.size]? = some (.cells cur 40 (0, 0)) ∧ cur.size = r.length * 8) := ⟨_, made_block hown, by simp [size_madeCells]⟩
      clear hown hgrow
      generalize hebe : wA.heap.size = eb at HC2 ⊢
      have HEB : Hid (wA.heap.size = eb) := hebe
      clear hebe
      go_wp2
      go_loopw [94] (fun v94 x => Rel4L r eb wA v94 x) (fun v94 _ => r.length - (intOf v94).toNat)
      case atStart => exact ⟨0, Nat.zero_le _, rfl, HB2.out, HC2.out, fun k hk => absurd hk (by omega)⟩
      case round =>
        obtain ⟨j, hjn, rfl, hbel4, ⟨cur4, hcur4, hcs4⟩, heds⟩ := hrel
        obtain ⟨wB, rfl⟩ : ∃ x, x = wr := ⟨_, rfl⟩
        have HW4 : Hid (Below wA.heap.size wA wB) := hbel4
        have HC4 : Hid (wB.heap[eb]? = some (.cells cur4 40 (0, 0))) := hcur4
        have HE4 : Hid (∀ k, k < j → EdB wB eb k (eds r) ∧ ObGt wB eb k) := heds
        have hsz4 := hbel4.size
        have hebB : eb < wB.heap.size := lt_of_block hcur4
        have hlwB : lb < wB.heap.size := Nat.lt_of_lt_of_le hlw hsz4
        clear hbel4 hcur4 heds
        by_cases hlt4 : j < r.length
        · obtain ⟨b5, o5, rfl, hb5, hed5⟩ := HRR.out (by omega)
          obtain ⟨hop, e0, ⟨ov, e1, oa, oc, rfl, hob, hoe⟩, e2, e3⟩ := (hed5 j hlt4).below hb5 HW4.out
          have hol := HO.out j hlt4
          obtain ⟨d, hd⟩ : ∃ d, r.getD j Ed.d = d := ⟨_, rfl⟩
          rw [hd] at hop e0 e1 e2 e3 hob hoe hol
          have HD : Hid (r.getD j Ed.d = d) := hd
          have HOB : Hid (∀ m, m < d.oth.length → d.oth.getD m 0 < 256) := hob
          have HOE : Hid (Elems wB oa d.oth.length (fun m => .int .u8 (d.oth.getD m 0 : Nat))) := hoe
          have hb5B : b5 < wB.heap.size := Nat.lt_of_lt_of_le hb5 hsz4
          clear hed5 hd hob hoe
          go_upto_region 25 with fail
          have X1 : Hid (Below wB.heap.size wB (wB.alloc (.cells #[.int .u8 d.op, .slice oa d.oth.length oc, .int .i64 d.tg, .bool d.keep] 28))) := (Below.refl _ _).alloc (Nat.le_refl _) _
          have y0 : (wB.alloc (.cells #[.int .u8 d.op, .slice oa d.oth.length oc, .int .i64 d.tg, .bool d.keep] 28)).cell? ⟨wB.heap.size, 0, none⟩ = some (.int .u8 d.op) := (World.cell?_alloc_new wB _ _ _).trans rfl
          have y1 : (wB.alloc (.cells #[.int .u8 d.op, .slice oa d.oth.length oc, .int .i64 d.tg, .bool d.keep] 28)).cell? ⟨wB.heap.size, 1, none⟩ = some (.slice oa d.oth.length oc) := (World.cell?_alloc_new wB _ _ _).trans rfl
          have y2 : (wB.alloc (.cells #[.int .u8 d.op, .slice oa d.oth.length oc, .int .i64 d.tg, .bool d.keep] 28)).cell? ⟨wB.heap.size, 2, none⟩ = some (.int .i64 d.tg) := (World.cell?_alloc_new wB _ _ _).trans rfl
          have y3 : (wB.alloc (.cells #[.int .u8 d.op, .slice oa d.oth.length oc, .int .i64 d.tg, .bool d.keep] 28)).cell? ⟨wB.heap.size, 3, none⟩ = some (.bool d.keep) := (World.cell?_alloc_new wB _ _ _).trans rfl
          have xs : (wB.alloc (.cells #[.int .u8 d.op, .slice oa d.oth.length oc, .int .i64 d.tg, .bool d.keep] 28)).heap.size = wB.heap.size + 1 := by simp
          generalize wB.alloc (.cells #[.int .u8 d.op, .slice oa d.oth.length oc, .int .i64 d.tg, .bool d.keep] 28) = x at X1 y0 y1 y2 y3 xs ⊢
          generalize hdbe : wB.heap.size = dB at X1 y0 y1 y2 y3 xs ⊢
          have HDB : Hid (wB.heap.size = dB) := hdbe
          have HXS0 : Hid (x.heap.size = dB + 1) := xs
          clear hdbe e0 e1 e2 e3 xs
          go_wp2_with (at_make; refine wpList_make_full _ rfl _ _ 31 rfl x.heap.size 3 i3 _ 1 Ybaf.underlying31 hi3 hz3 hs3 _ _ _ _ d.oth.length rfl rfl rfl rfl (by rw [hb3]; omega) (by unfold maxLen; omega) (Nat.le_refl _) ?_)
          intro w5 hown hgrow
          have HB5 : Hid (Below x.heap.size x w5) := (Below.refl _ _).grown hgrow (Nat.le_refl _) (fun k hk => by cases hk)
          have HC5 : Hid (w5.heap[x.heap.size]? = some (.cells (ints (List.replicate d.oth.length 0)).toArray 3 (0, 0))) := by
            have := made_block hown
            show w5.heap[x.heap.size]? = some (.cells (ints (List.replicate d.oth.length 0)).toArray 3 (0, 0))
            rw [this]
            simp [made_one, ints]
          clear hown hgrow
          generalize hobe : x.heap.size = ob at HB5 HC5 HXS0 ⊢
          have xs : ob = dB + 1 := HXS0.out
          have z0 : w5.cell? ⟨dB, 0, none⟩ = some (.int .u8 d.op) := (HB5.out.cell (p := ⟨dB, 0, none⟩) (by show dB < ob; omega)).trans y0
          have z1 : w5.cell? ⟨dB, 1, none⟩ = some (.slice oa d.oth.length oc) := (HB5.out.cell (p := ⟨dB, 1, none⟩) (by show dB < ob; omega)).trans y1
          have z2 : w5.cell? ⟨dB, 2, none⟩ = some (.int .i64 d.tg) := (HB5.out.cell (p := ⟨dB, 2, none⟩) (by show dB < ob; omega)).trans y2
          have z3 : w5.cell? ⟨dB, 3, none⟩ = some (.bool d.keep) := (HB5.out.cell (p := ⟨dB, 3, none⟩) (by show dB < ob; omega)).trans y3
          clear y0 y1 y2 y3 hobe
          have HXS : Hid (ob = dB + 1) := xs
          clear xs
          have hdbl : dB < ob := by have := HXS.out; omega
          go_wp2
          go_loopw [106] (fun v106 y => Rel5L d.oth r.length ob w5 v106 y) (fun v106 _ => d.oth.length - (intOf v106).toNat)
          case atStart => exact ⟨0, Nat.zero_le _, rfl, Below.refl _ _, by rw [row5_zero]; exact HC5.out⟩
          case round =>
            obtain ⟨m, hm, rfl, hbel5, hc5⟩ := hrel
            obtain ⟨y, rfl⟩ : ∃ x, x = wr := ⟨_, rfl⟩
            have HW5 : Hid (Below ob w5 y) := hbel5
            have HCY : Hid (y.heap[ob]? = some (.cells (ints (row5 d.oth r.length m)).toArray 3 (0, 0))) := hc5
            have hoby : ob < y.heap.size := lt_of_block hc5
            have HBY : Hid (Below dB wB y) := by
              have h1 : Below dB x w5 := HB5.out.mono (by omega)
              have h2 : Below dB w5 y := hbel5.mono (by omega)
              exact X1.out.trans (h1.trans h2)
            have hrl : (row5 d.oth r.length m).length = d.oth.length := row5_length _ _ _ hm
            clear hbel5 hc5
            by_cases hlt5 : m < d.oth.length
            · obtain ⟨ob5, oo5, rfl, hobl, hoc⟩ := HOE.out (by omega)
              have f0 : y.cell? ⟨ob5, oo5 + m, none⟩ = some (.int .u8 (d.oth.getD m 0 : Nat)) := (HBY.out.cell (p := ⟨ob5, oo5 + m, none⟩) (by rw [← HDB.out]; exact hobl)).trans (hoc m hlt5)
              have hz := HOB.out m hlt5
              have HA : Hid ((row5 d.oth r.length m).set m ((d.oth.getD m 0 % r.length : Nat) : Int) = row5 d.oth r.length (m + 1)) := row5_set _ _ _ hlt5
              obtain ⟨z, hze⟩ : ∃ z, d.oth.getD m 0 = z := ⟨_, rfl⟩
              rw [hze] at HA hz f0
              obtain ⟨q, hqe⟩ : ∃ q, z % r.length = q := ⟨_, rfl⟩
              rw [hqe] at HA
              have hq : q < r.length := by rw [← hqe]; exact Nat.mod_lt _ (by omega)
              have hq1 : ((z : Int).tmod (r.length : Int)) = (q : Int) := by rw [← hqe]; simp [Int.natCast_emod, Int.tmod_eq_emod_of_nonneg]
              have hq2 : ((z : Int) % (r.length : Int)) = (q : Int) := by rw [← hqe]; simp [Int.natCast_emod]
              have hr0 : ((r.length : Int) == 0) = false := by rw [beq_eq_false_iff_ne]; omega
              have hr1' : (r.length : Int) ≠ 0 := by omega
              have hr2 : r.length ≠ 0 := by omega
              obtain ⟨vv, hvv⟩ : ∃ v, y.cell? ⟨ob, m, none⟩ = some v := ⟨_, (cell_of HCY.out m).trans (ints_get _ _ (by omega))⟩
              have hfy : y.frozen? ⟨ob, m, none⟩ = false := free_of HCY.out m
              clear hoc hze hqe
              go_wp2
              go_roundw
              case rel =>
                refine ⟨m + 1, hlt5, by go_num, HW5.out.setCell (p := ⟨ob, m, none⟩) (Nat.le_refl _) _, ?_⟩
                rw [← HA.out, ← ints_set]
                exact set_block HCY.out
              case measure => simp [intOf]; omega
            · obtain rfl : m = d.oth.length := by omega
              have q0 : y.cell? ⟨dB, 0, none⟩ = some (.int .u8 d.op) := (HW5.out.cell (p := ⟨dB, 0, none⟩) hdbl).trans z0
              have q2 : y.cell? ⟨dB, 2, none⟩ = some (.int .i64 d.tg) := (HW5.out.cell (p := ⟨dB, 2, none⟩) hdbl).trans z2
              have q3 : y.cell? ⟨dB, 3, none⟩ = some (.bool d.keep) := (HW5.out.cell (p := ⟨dB, 3, none⟩) hdbl).trans z3
              have hedb : eb < dB := by rw [← HDB.out]; exact hebB
              have hne1 : eb ≠ dB := by omega
              have hne2 : dB ≠ eb := by omega
              have hey : y.heap[eb]? = some (.cells cur4 40 (0, 0)) := (HBY.out.block eb hedb).trans HC4.out
              have HEY : Hid (y.heap[eb]? = some (.cells cur4 40 (0, 0))) := hey
              have exi : ∀ t, t < 8 → ∃ v, y.cell? ⟨eb, j * 8 + t, none⟩ = some v := fun t ht => ⟨_, (cell_of hey (j * 8 + t)).trans (Array.getElem?_eq_getElem (by omega))⟩
              obtain ⟨v0, c0⟩ := exi 0 (by omega)
              obtain ⟨v1, c1⟩ := exi 1 (by omega)
              obtain ⟨v2, c2⟩ := exi 2 (by omega)
              obtain ⟨v3, c3⟩ := exi 3 (by omega)
              obtain ⟨v4, c4⟩ := exi 4 (by omega)
              obtain ⟨v5, c5⟩ := exi 5 (by omega)
              obtain ⟨v6, c6⟩ := exi 6 (by omega)
              obtain ⟨v7, c7⟩ := exi 7 (by omega)
              have c0' : y.cell? ⟨eb, j * 8, none⟩ = some v0 := c0
              have fz : ∀ t, y.frozen? ⟨eb, t, none⟩ = false := fun t => free_of hey t
              clear exi hey c0 z0 z1 z2 z3
              go_wp2_with fail
              go_region_held3 (fun w' => w'.cell? ⟨dB, 0, none⟩ = some (.int .u8 d.op) ∧ w'.cell? ⟨dB, 2, none⟩ = some (.int .i64 d.tg) ∧ w'.cell? ⟨dB, 3, none⟩ = some (.bool d.keep)) (go_keep) (first | (go_at_call 6; refine (op_any d.op hop _).mono ?_; rintro e w' ⟨rfl, rfl⟩))
              obtain ⟨Z, hZ⟩ : ∃ Z, Z = y.setCells eb (j * 8) [.int .i64 (opOf d.op), .int .i64 0, .int .i64 0, .pointer none, .nilIface, .slice (some ⟨ob, 0, none⟩) d.oth.length d.oth.length, .int .i64 d.tg, .bool d.keep] := ⟨_, rfl⟩
              have HZ : Hid (Z = y.setCells eb (j * 8) [.int .i64 (opOf d.op), .int .i64 0, .int .i64 0, .pointer none, .nilIface, .slice (some ⟨ob, 0, none⟩) d.oth.length d.oth.length, .int .i64 d.tg, .bool d.keep]) := hZ
              simp only [World.setCells, Nat.add_assoc, Nat.reduceAdd] at hZ
              rw [← hZ]
              clear hZ
              go_wp2
              go_roundw
              case rel =>
                have hoE : (eds r).oth j = d.oth.map (· % r.length) := by show (r.getD j Ed.d).oth.map (· % r.length) = _; rw [HD.out]
                have hoL : ((eds r).oth j).length = d.oth.length := by rw [hoE, List.length_map]
                have hopE : (eds r).op j = opOf d.op := by show opOf (r.getD j Ed.d).op = _; rw [HD.out]
                have htE : (eds r).tg j = d.tg := by show (r.getD j Ed.d).tg = _; rw [HD.out]
                have hkE : (eds r).keep j = d.keep := by show (r.getD j Ed.d).keep = _; rw [HD.out]
                have hrow : y.heap[ob]? = some (.cells (ints (((eds r).oth j).map fun o : Nat => (o : Int))).toArray 3 (0, 0)) := by
                  rw [hoE, List.map_map, HCY.out, row5_all]
                  rfl
                have ES := edge_stored (E := eds r) (v3 := .pointer none) (v4 := .nilIface) HEY.out hcs4 hlt4 hoby (by omega) hrow
                rw [hoL, hopE, htE, hkE] at ES
                have ES2 : EdB Z eb j (eds r) ∧ ObGt Z eb j := by rw [HZ.out]; exact ES
                have hAB : wA.heap.size ≤ dB := by rw [← HDB.out]; exact hsz4
                have hblk : ∃ cur9, Z.heap[eb]? = some (.cells cur9 40 (0, 0)) ∧ cur9.size = cur4.size := by rw [HZ.out]; exact setCells_block eb 40 _ (j * 8) y cur4 HEY.out
                have hbZ : Below wA.heap.size wA Z := by rw [HZ.out]; exact setCells_below (HW4.out.trans (HBY.out.mono hAB)) (Nat.le_of_eq HEB.out) _
                have hkZ : ∀ k, k < j → EdB Z eb k (eds r) ∧ ObGt Z eb k := fun k hk => by
                  have hk4 := HE4.out k hk
                  rw [HZ.out]
                  exact edge_kept (hk4.1.keep hk4.2 HBY.out.size (fun x hx hx2 => HBY.out.block x (by rw [← HDB.out]; exact hx2)) (fun t _ => HBY.out.cell (p := ⟨eb, k * 8 + t, none⟩) hedb)) hk _
                obtain ⟨cur9, h91, h92⟩ := hblk
                refine ⟨j + 1, hlt4, by go_num, hbZ.drew, ⟨cur9, h91, h92.trans hcs4⟩, fun k hk => ?_⟩
                by_cases e : k = j
                · rw [e]
                  exact edb_drew ES2
                · exact edb_drew (hkZ k (by omega))
              case measure => simp [intOf]; omega
        · obtain rfl : j = r.length := by omega
          have kc : wB.heap[lb]? = some (.cells cur 42 (0, 0)) := (HW4.out.block lb hlw).trans HCU.out
          have KC : Hid (wB.heap[lb]? = some (.cells cur 42 (0, 0))) := kc
          obtain ⟨v4, hv4⟩ : ∃ v, wB.cell? ⟨lb, i * 6 + 4, none⟩ = some v := ⟨_, (cell_of kc (i * 6 + 4)).trans (Array.getElem?_eq_getElem (by omega))⟩
          have hf4 : wB.frozen? ⟨lb, i * 6 + 4, none⟩ = false := free_of kc _
          clear kc
          go_wp2
          go_roundw
          case rel =>
            refine ⟨i + 1, hlt, by go_num, ?_, ⟨_, set_block KC.out, by simpa using hcs⟩, fun k hk => ?_⟩
            · exact (HW.out.trans (HW4.out.mono hsz)).setCell (p := ⟨lb, i * 6 + 4, none⟩) (by show W.heap.size ≤ lb; rw [HLB.out]; exact Nat.le_refl _) _
            · by_cases e : k = i
              · subst e
                rw [HRE.out]
                have hne : lb ≠ eb := by have := HEB.out; omega
                refine ⟨eb, ?_, by simpa using hebB, by have := HEB.out; omega, fun m hm => (HE4.out m hm).1.keep (HE4.out m hm).2 (by simp) (fun x hx hx2 => Below.heap_setCell _ _ _ _ (by show x ≠ lb; have := HEB.out; omega)) (fun t _ => World.cell?_of_block (Below.heap_setCell _ _ _ _ (Ne.symm hne)))⟩
                rw [cell_of (set_block KC.out) (k * 6 + 4), Array.getElem?_setIfInBounds, if_pos rfl, if_pos (by omega)]
              · refine ((HLO.out k (by omega)).keep hsz4 (fun x hx hx2 => HW4.out.block x hx2) (HW4.out.cell (p := ⟨lb, k * 6 + 4, none⟩) hlw)).keep (by simp) (fun x hx hx2 => Below.heap_setCell _ _ _ _ (by show x ≠ lb; omega)) ?_
                rw [cell_of (set_block KC.out) (k * 6 + 4), cell_of KC.out (k * 6 + 4), Array.getElem?_setIfInBounds_ne (by omega)]
          case measure => simp [intOf]; omega
    · obtain rfl : i = L.length := by omega
      go_wp2
      exact tail2 F w0 HF.out L LA lc HL.out hn HFIT.out wA (B02.out.trans (HW.out.mono B02.out.size)) l hl GA gl gc G hgl HGA.out f hf lb hlw (fun k hk => (HLO.out k hk).plain) _ _ _ _ _ _ _ _ _ _ _ _ _ _ _ _ _ _ _ _ _ _ _ _ _ _ _ _ _ _ _ _ _ _ _ _ _ _ _ _ _ _ _ _ _ _ _ _ _ _ _ _ _ _ _ _ _ _ _ _ _ _ _ _ _ _ _ _ _ _ _ _ _ _ _ _ _ _ _ _ _ _ _ _ _ _ _ _ _ _ _ _ _ _ _ _ _ _ _ _ _ _ _ _ _ _ _ _ _ _ _ _ _ _ _ _ _ _ _ _ _ _ _ _ _ _ _ _ _ _ _ _ _ _ _ _ _ _ _ _ _ _ _ _ _ _ _ _ _ _ _ _ _ _ _ _ _ _ _ _ _ _ _ _ _ _ _ _ _ _ _ _ _ _ _ _ _ _ _ _ _ _ _ _ _ _ _ _ _ _ _ _ _ _ _ _ _ _ _ _ _ _ _ _ _ _ _ _ _ _ _ _ _ _ _ _ _ _ _ _ _ _ _ _ _ _ _ _ _ _ _ _ _ _ _ _ _ _ _ _ _ _ _ _ _ _ _ _ _ _ _ _ _ _ _ _ _ _ _ _ _ _ _ _ _ _ _ _ _ _ _ _ _ _ _ _ _ _ _ _ _ _ _ _ _ _ _ _ _ _ _ _ _ _ _ _ _ _ _ _ _ _ _ _ _ _ _ _ _ _ _ _ _ _ _ _ _ _ _ _ _ _

end Go.Proofs.YbulkcwciFmt
