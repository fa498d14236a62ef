import Derived.Test.YbulkcwciFmtTail3
import Derived.Test.YbulkcwciFmtStep
namespace Go.Proofs.YbulkcwciFmt
open Go.RowKit Go.Deep Go.Extern.Stop Go.Stop Go.Extern

/-- An edge that the law has built. -/
def EdB (w : World) (eb j : Nat) (E : Eds) : Prop :=
  w.cell? ⟨eb, j * 8, none⟩ = some (.int .i64 (E.op j)) ∧ w.cell? ⟨eb, j * 8 + 1, none⟩ = some (.int .i64 0) ∧ w.cell? ⟨eb, j * 8 + 2, none⟩ = some (.int .i64 0) ∧ w.cell? ⟨eb, j * 8 + 6, none⟩ = some (.int .i64 (E.tg j)) ∧ w.cell? ⟨eb, j * 8 + 7, none⟩ = some (.bool (E.keep j)) ∧
    ∃ ob, w.cell? ⟨eb, j * 8 + 5, none⟩ = some (.slice (some ⟨ob, 0, none⟩) (E.oth j).length (E.oth j).length) ∧ ob < w.heap.size ∧ ∀ m, m < (E.oth j).length → w.cell? ⟨ob, m, none⟩ = some (.int .i64 ((E.oth j).getD m 0 : Nat))
def EdsB (w : World) (ea : Option Addr) (E : Eds) : Prop := 0 < E.n → ∃ eb, ea = some ⟨eb, 0, none⟩ ∧ eb < w.heap.size ∧ ∀ j, j < E.n → EdB w eb j E
theorem EdB.below {w w' : World} {eb j : Nat} {E : Eds} (h : EdB w eb j E) (he : eb < w.heap.size) (b : Below w.heap.size w w') : EdB w' eb j E := by
  obtain ⟨h1, h2, h3, h4, h5, ob, h6, h7, h8⟩ := h
  have hc : ∀ i j v, i < w.heap.size → w.cell? ⟨i, j, none⟩ = some v → w'.cell? ⟨i, j, none⟩ = some v := fun i j v hi hv => (b.cell (p := ⟨i, j, none⟩) hi).trans hv
  exact ⟨hc _ _ _ he h1, hc _ _ _ he h2, hc _ _ _ he h3, hc _ _ _ he h4, hc _ _ _ he h5, ob, hc _ _ _ he h6, Nat.lt_of_lt_of_le h7 b.size, fun m hm => hc _ _ _ h7 (h8 m hm)⟩

/-- The world in which the law calls Step. -/
def W4 (W : World) (s : ByteArray) (gs lv2 z1 z2 : Value) (f : Nat) : World :=
  (((W.alloc (.cells #[.string s] 64)).alloc (.cells #[gs, .int .i64 0, .int .i64 f, .int .i64 0, .slice none 0 0, .iface 62 (.pointer (some ⟨W.heap.size, 0, none⟩))] 48)).alloc (.cells #[lv2, z1, z2] 52)).alloc (.cells (walker0 (W.heap.size + 1)) 69)

theorem heap4 (W : World) (s : ByteArray) (gs lv2 z1 z2 : Value) (f : Nat) : (W4 W s gs lv2 z1 z2 f).heap = (((W.heap.push (.cells #[.string s] 64)).push (.cells #[gs, .int .i64 0, .int .i64 f, .int .i64 0, .slice none 0 0, .iface 62 (.pointer (some ⟨W.heap.size, 0, none⟩))] 48)).push (.cells #[lv2, z1, z2] 52)).push (.cells (walker0 (W.heap.size + 1)) 69) := rfl
theorem size4 (W : World) (s : ByteArray) (gs lv2 z1 z2 : Value) (f : Nat) : (W4 W s gs lv2 z1 z2 f).heap.size = W.heap.size + 4 := by rw [heap4]; simp
theorem below4 (W : World) (s : ByteArray) (gs lv2 z1 z2 : Value) (f : Nat) : Below W.heap.size W (W4 W s gs lv2 z1 z2 f) := ((((Below.refl _ _).alloc (Nat.le_refl _) _).alloc (by simp) _).alloc (by simp; omega) _).alloc (by simp; omega) _
theorem xb4 (W : World) (s : ByteArray) (gs lv2 z1 z2 : Value) (f : Nat) : (W4 W s gs lv2 z1 z2 f).heap[W.heap.size + 1]? = some (.cells #[gs, .int .i64 0, .int .i64 f, .int .i64 0, .slice none 0 0, .iface 62 (.pointer (some ⟨W.heap.size, 0, none⟩))] 48 (0, 0)) := by
  rw [heap4, Array.getElem?_push, if_neg (by simp), Array.getElem?_push, if_neg (by simp), Array.getElem?_push, if_pos (by simp)]
theorem gb4 (W : World) (s : ByteArray) (gs lv2 z1 z2 : Value) (f : Nat) : (W4 W s gs lv2 z1 z2 f).heap[W.heap.size + 1 + 1]? = some (.cells #[lv2, z1, z2] 52 (0, 0)) := by
  rw [heap4, Array.getElem?_push, if_neg (by simp), Array.getElem?_push, if_pos (by simp)]
theorem wb4 (W : World) (s : ByteArray) (gs lv2 z1 z2 : Value) (f : Nat) : (W4 W s gs lv2 z1 z2 f).heap[W.heap.size + 1 + 1 + 1]? = some (.cells (walker0 (W.heap.size + 1)) 69 (0, 0)) := by
  rw [heap4, Array.getElem?_push, if_pos (by simp)]
theorem edges_of {c : Cfg} {W : World} {r : List Ed} {ea : Option Addr} (h : EdsB W ea (eds r)) (hn : r.length ≤ 1024) (hoth : ∀ j, j < r.length → (r.getD j Ed.d).oth.length ≤ 256) (b : Below W.heap.size W c.w0) (hx : W.heap.size ≤ c.xb) (hw : W.heap.size ≤ c.wb) : EdgesAt c (eds r) ea := by
  refine ⟨hn, fun h0 => ?_⟩
  obtain ⟨eb, e, he, hall⟩ := h h0
  have sz := b.size
  refine ⟨eb, e, fun j hj => ?_⟩
  obtain ⟨h1, h2, h3, h4, h5, ob, h6, h7, h8⟩ := (hall j hj).below he b
  obtain ⟨_, _, _, _, _, ob2, h6', h7', _⟩ := hall j hj
  have eo : ob2 = ob := by
    have e1 := (b.cell (p := ⟨eb, j * 8 + 5, none⟩) he).trans h6'
    rw [h6] at e1
    simp only [Option.some.injEq, Value.slice.injEq, Addr.mk.injEq] at e1
    exact e1.1.1.symm
  subst eo
  refine ⟨⟨by omega, by omega, by omega, h1, h4, h5⟩, h2, h3, ?_, fun o ho => ?_, ob2, h6, by omega, by omega, by omega, h8⟩
  · show ((r.getD j Ed.d).oth.map (· % r.length)).length ≤ 256
    rw [List.length_map]
    exact hoth j hj
  · have ho' : o ∈ (r.getD j Ed.d).oth.map (· % r.length) := ho
    obtain ⟨x, _, rfl⟩ := List.mem_map.1 ho'
    exact Nat.mod_lt _ h0

set_option maxHeartbeats 8000000 in
set_option maxRecDepth 100000 in
theorem tail2b (F : Interp) (w0 : World) (hF : F.answers w0.tape) (r : List Ed) (rv : Value) (hr : RowAt w0 rv r) (hn : r.length ≤ 1024) (hoth : ∀ j, j < r.length → (r.getD j Ed.d).oth.length ≤ 256) (W : World) (b02 : Below w0.heap.size w0 W)
    (GA : Option Addr) (gl gc : Nat) (G : Nat → Bool) (hgl : gl ≤ 1024) (hga : Elems w0 GA gl (fun j => .bool (G j))) (f : Nat) (hf : f < 256) (lb nl nlc q : Nat) (hlb : lb < W.heap.size) (hq : q < nl) (hnl : nl ≤ 1000000)
    (ea : Option Addr) (ec : Nat) (hcl : W.cell? ⟨lb, q * 6 + 4, none⟩ = some (.slice ea r.length ec)) (hEB : EdsB W ea (eds r))
    (u0 u1 u4 u5 u6 u7 u8 u9 u10 u11 u12 u13 u15 u16 u17 u18 u19 u20 u21 u22 u25 u26 u27 u28 u29 u30 u31 u32 u33 u34 u35 u36 u37 u38 u39 u40 u41 u42 u43 u44 u45 u46 u47 u48 u49 u50 u51 u52 u53 u54 u55 u56 u57 u58 u59 u60 u61 u62 u63 u64 u65 u66 u67 u68 u69 u70 u71 u72 u73 u74 u75 u76 u77 u78 u79 u80 u81 u82 u83 u84 u85 u86 u87 u88 u89 u90 u91 u92 u93 u94 u95 u96 u97 u98 u99 u100 u101 u102 u103 u104 u105 u106 u107 u108 u109 u110 u111 u112 u113 u114 u115 u116 u117 u118 u119 u120 u121 u122 u123 u124 u125 u126 u127 u128 u129 u130 u131 u132 u133 u134 u135 u136 u137 u138 u139 u140 u141 u142 u143 u144 u145 u146 u147 u148 u149 u150 u151 u152 u153 u154 u155 u156 u157 u158 u159 u160 u161 u162 u163 u164 u165 u166 u167 u168 u169 u170 u171 u172 u173 u174 u175 u176 u177 u178 u179 u180 u181 u182 u183 u184 u185 u186 u187 u188 u189 u190 u191 u192 u193 u194 u195 u196 u197 u198 u199 u200 u201 u202 u203 u204 u205 u206 u207 u208 u209 u210 u211 u212 u213 u214 u215 u216 u217 u218 u219 u220 u221 u222 u223 u224 u225 u226 u227 u228 u229 u230 u231 u232 u233 u234 u235 u236 u237 u238 u239 u240 u241 u242 u243 u244 u245 u246 u247 u248 u249 u250 u251 u252 u253 u254 u255 u256 u257 u258 u259 u260 u261 u262 u263 u264 u265 u266 u267 u268 u269 u270 u271 u272 u273 u274 u275 u276 u277 u278 u279 u280 u281 u282 u283 u284 u285 u286 u287 u288 u289 u290 u291 u292 u293 u294 u295 u296 u297 u298 u299 u300 u301 u302 u303 u304 u305 u306 u307 u308 u309 u310 u311 u312 u313 u314 u315 u316 u317 u318 u319 u320 u321 u322 u323 u324 u325 u326 : Value) :
    (tailC 11 Ybaf.f3).wp Ybaf.prog (bodyPost Ybaf.prog Ybaf.f3 fun e w' => LawEnd w0 e w') ⟨#[u0, u1, .slice GA gl gc, .int .u8 f, u4, u5, u6, u7, u8, u9, u10, u11, u12, u13, .slice (some ⟨lb, 0, none⟩) nl nlc, u15, u16, u17, u18, u19, u20, u21, u22, rv, .int .i64 q, u25, u26, u27, u28, u29, u30, u31, u32, u33, u34, u35, u36, u37, u38, u39, u40, u41, u42, u43, u44, u45, u46, u47, u48, u49, u50, u51, u52, u53, u54, u55, u56, u57, u58, u59, u60, u61, u62, u63, u64, u65, u66, u67, u68, u69, u70, u71, u72, u73, u74, u75, u76, u77, u78, u79, u80, u81, u82, u83, u84, u85, u86, u87, u88, u89, u90, u91, u92, u93, u94, u95, u96, u97, u98, u99, u100, u101, u102, u103, u104, u105, u106, u107, u108, u109, u110, u111, u112, u113, u114, u115, u116, u117, u118, u119, u120, u121, u122, u123, u124, u125, u126, u127, u128, u129, u130, u131, u132, u133, u134, u135, u136, u137, u138, u139, u140, u141, u142, u143, u144, u145, u146, u147, u148, u149, u150, u151, u152, u153, u154, u155, u156, u157, u158, u159, u160, u161, u162, u163, u164, u165, u166, u167, u168, u169, u170, u171, u172, u173, u174, u175, u176, u177, u178, u179, u180, u181, u182, u183, u184, u185, u186, u187, u188, u189, u190, u191, u192, u193, u194, u195, u196, u197, u198, u199, u200, u201, u202, u203, u204, u205, u206, u207, u208, u209, u210, u211, u212, u213, u214, u215, u216, u217, u218, u219, u220, u221, u222, u223, u224, u225, u226, u227, u228, u229, u230, u231, u232, u233, u234, u235, u236, u237, u238, u239, u240, u241, u242, u243, u244, u245, u246, u247, u248, u249, u250, u251, u252, u253, u254, u255, u256, u257, u258, u259, u260, u261, u262, u263, u264, u265, u266, u267, u268, u269, u270, u271, u272, u273, u274, u275, u276, u277, u278, u279, u280, u281, u282, u283, u284, u285, u286, u287, u288, u289, u290, u291, u292, u293, u294, u295, u296, u297, u298, u299, u300, u301, u302, u303, u304, u305, u306, u307, u308, u309, u310, u311, u312, u313, u314, u315, u316, u317, u318, u319, u320, u321, u322, u323, u324, u325, u326], []⟩ W := by
  obtain ⟨f16, hf16⟩ : ∃ n, f % 16 = n := ⟨_, rfl⟩
  have hfm : ((f : Int) % 16) = (f16 : Int) := by rw [← hf16]; rfl
  have B02 : Hid (Below w0.heap.size w0 W) := b02
  have HR : Hid (RowAt w0 rv r) := hr
  have HOL : Hid (∀ j, j < r.length → (r.getD j Ed.d).oth.length ≤ 256) := hoth
  have HGA : Hid (Elems w0 GA gl (fun j => .bool (G j))) := hga
  have HF : Hid (F.answers w0.tape) := hF
  have HCL : Hid (W.cell? ⟨lb, q * 6 + 4, none⟩ = some (.slice ea r.length ec)) := hcl
  have HEB : Hid (EdsB W ea (eds r)) := hEB
  clear b02 hr hoth hga hF hcl hEB hf16
  refine wp_tail_k (n := 11) (f := Ybaf.f3) rfl fun K hK => ?_
  go_wp2_with (first | (go_at_call 7; refine (new_any _ _).mono ?_; rintro e w' ⟨rfl, rfl⟩))
  refine wp_tail_k (n := 12) (f := Ybaf.f3) rfl fun K hK => ?_
  go_wp2
  refine wp_tail_k (n := 13) (f := Ybaf.f3) rfl fun K hK => ?_
  go_wp2
  refine wp_tail_k (n := 14) (f := Ybaf.f3) rfl fun K hK => ?_
  go_wp2_with (first | (go_at_call 8; refine (walker_any _ _).mono ?_; rintro e w' ⟨rfl, rfl⟩))
  refine wp_tail_k (n := 15) (f := Ybaf.f3) rfl fun K hK => ?_
  go_wp2_with fail
  have s4 := size4 W ⟨#[122, 122, 32, 101, 110, 100, 32, 102, 97, 105, 108, 115]⟩ (.slice GA gl gc) (.slice (some ⟨lb, 0, none⟩) nl nlc) (.int .i64 0) (.map none) f16
  have b4 := below4 W ⟨#[122, 122, 32, 101, 110, 100, 32, 102, 97, 105, 108, 115]⟩ (.slice GA gl gc) (.slice (some ⟨lb, 0, none⟩) nl nlc) (.int .i64 0) (.map none) f16
  have x4 := xb4 W ⟨#[122, 122, 32, 101, 110, 100, 32, 102, 97, 105, 108, 115]⟩ (.slice GA gl gc) (.slice (some ⟨lb, 0, none⟩) nl nlc) (.int .i64 0) (.map none) f16
  have g4 := gb4 W ⟨#[122, 122, 32, 101, 110, 100, 32, 102, 97, 105, 108, 115]⟩ (.slice GA gl gc) (.slice (some ⟨lb, 0, none⟩) nl nlc) (.int .i64 0) (.map none) f16
  have k4 := wb4 W ⟨#[122, 122, 32, 101, 110, 100, 32, 102, 97, 105, 108, 115]⟩ (.slice GA gl gc) (.slice (some ⟨lb, 0, none⟩) nl nlc) (.int .i64 0) (.map none) f16
  obtain ⟨c, hc⟩ : ∃ c : Cfg, c = ⟨W4 W ⟨#[122, 122, 32, 101, 110, 100, 32, 102, 97, 105, 108, 115]⟩ (.slice GA gl gc) (.slice (some ⟨lb, 0, none⟩) nl nlc) (.int .i64 0) (.map none) f16, W.heap.size + 1, W.heap.size + 1 + 1 + 1, W.heap.size + 1 + 1, .slice GA gl gc, .iface 62 (.pointer (some ⟨W.heap.size, 0, none⟩)), f16⟩ := ⟨_, rfl⟩
  have cw : c.w0 = W4 W ⟨#[122, 122, 32, 101, 110, 100, 32, 102, 97, 105, 108, 115]⟩ (.slice GA gl gc) (.slice (some ⟨lb, 0, none⟩) nl nlc) (.int .i64 0) (.map none) f16 := by rw [hc]
  have cx : c.xb = W.heap.size + 1 := by rw [hc]
  have cb' : c.wb = W.heap.size + 1 + 1 + 1 := by rw [hc]
  have cg : c.gb = W.heap.size + 1 + 1 := by rw [hc]
  have cgs : c.gs = .slice GA gl gc := by rw [hc]
  have ce : c.er = .iface 62 (.pointer (some ⟨W.heap.size, 0, none⟩)) := by rw [hc]
  have cf : c.fail = f16 := by rw [hc]
  rw [← cw] at s4 b4 x4 g4 k4
  have hgr : GraphAt c q ea (eds r).n ec := by
    refine ⟨by omega, by omega, by omega, lb, nl, nlc, by omega, by omega, by omega, hq, hnl, ?_, (b4.cell (p := ⟨lb, q * 6 + 4, none⟩) hlb).trans HCL.out⟩
    rw [cg]
    exact (cell_of g4 0).trans rfl
  have hE : EdgesAt c (eds r) ea := edges_of HEB.out hn HOL.out b4 (by omega) (by omega)
  have hG : GuardsAt c GA gl gc G := by
    refine ⟨cgs, hgl, fun h0 => ?_⟩
    obtain ⟨b, o, e, hb, hc⟩ := HGA.out h0
    have h1 := B02.out.size
    exact ⟨b, o, e, by omega, by omega, by omega, fun j hj => ((b4.cell (p := ⟨b, o + j, none⟩) (by show b < W.heap.size; omega)).trans (B02.out.cell (p := ⟨b, o + j, none⟩) hb)).trans (hc j hj)⟩
  have hs := step_any F c q (eds r) ea ec GA gl gc G ⟨W.heap.size, 0, none⟩ ce ⟨by omega, by omega, by omega⟩ (by unfold XB; rw [cx, cgs, cf, ce]; exact x4) (by rw [cb', cx]; exact k4) (by rw [b4.tape, B02.out.tape]; exact HF.out) hgr hE hG (fun j _ => opOf_or _)
  have e1 : (⟨c.wb, 0, none⟩ : Addr) = ⟨W.heap.size + 1 + 1 + 1, 0, none⟩ := by rw [cb']
  have e2 : (⟨c.gb, 0, none⟩ : Addr) = ⟨W.heap.size + 1 + 1, 0, none⟩ := by rw [cg]
  rw [e1, e2, cw] at hs
  refine hs.mono ?_
  rintro e w5 ⟨W', fr, k', ends', log, cv', cs', ov', os', err, rfl, hst, hres⟩
  obtain ⟨lv, hsl⟩ := hst
  have HB5 : Hid (Below w0.heap.size w0 w5) := by
    have f1 := fr
    have f2 := hsl.1
    have sz := B02.out.size
    refine ⟨?_, ?_, ?_, ?_, fun i hi => ?_⟩
    · exact (f2.1.trans f1.1).trans (b4.os.trans B02.out.os)
    · exact (f2.2.1.trans f1.2.1).trans (b4.tape.trans B02.out.tape)
    · exact (f2.2.2.1.trans f1.2.2.1).trans (b4.output.trans B02.out.output)
    · exact Nat.le_trans sz (Nat.le_trans b4.size (Nat.le_trans f1.2.2.2.1 f2.2.2.2.1))
    · have hx : i ≠ c.xb := by omega
      have hw : i ≠ c.wb := by omega
      have h4 : i < c.w0.heap.size := by omega
      exact ((f2.2.2.2.2 i (Nat.lt_of_lt_of_le h4 f1.2.2.2.1) hx hw).trans (f1.2.2.2.2 i h4 hx hw)).trans ((b4.block i (by omega)).trans (B02.out.block i hi))
  have HXB : Hid (XB (c.rebase W') k' ends' lv w5) := hsl.2.2.1
  have HLG : Hid (w5.ownsRow (c.rebase W').w0.heap.size 3 1 lv log.length (ints log)) := hsl.2.2.2.2.1
  have HSD : Hid (StepSaid (c.rebase W') (eds r) gl G log err) := hres
  have HCE : Hid ((c.rebase W').er = .iface 62 (.pointer (some ⟨W.heap.size, 0, none⟩))) := ce
  have HCX : Hid ((⟨(c.rebase W').xb, 0, none⟩ : Addr) = ⟨W.heap.size + 1, 0, none⟩) := by show (⟨c.xb, 0, none⟩ : Addr) = _; rw [cx]
  clear s4 b4 x4 g4 k4 hc cw cx cb' cg cgs ce cf hgr hE hG hs e1 e2 hsl hres fr
  go_wp2
  rw [← HCX.out]
  exact tail3 w0 r rv HR.out hn HOL.out w5 HB5.out (c.rebase W') ⟨W.heap.size, 0, none⟩ HCE.out k' ends' lv log _ HXB.out HLG.out GA gl gc G hgl HGA.out err HSD.out _ _ _ _ _ _ _ _ _ _ _ _ _ _ _ _ _ _ _ _ _ _ _ _ _ _ _ _ _ _ _ _ _ _ _ _ _ _ _ _ _ _ _ _ _ _ _ _ _ _ _ _ _ _ _ _ _ _ _ _ _ _ _ _ _ _ _ _ _ _ _ _ _ _ _ _ _ _ _ _ _ _ _ _ _ _ _ _ _ _ _ _ _ _ _ _ _ _ _ _ _ _ _ _ _ _ _ _ _ _ _ _ _ _ _ _ _ _ _ _ _ _ _ _ _ _ _ _ _ _ _ _ _ _ _ _ _ _ _ _ _ _ _ _ _ _ _ _ _ _ _ _ _ _ _ _ _ _ _ _ _ _ _ _ _ _ _ _ _ _ _ _ _ _ _ _ _ _ _ _ _ _ _ _ _ _ _ _ _ _ _ _ _ _ _ _ _ _ _ _ _ _ _ _ _ _ _ _ _ _ _ _ _ _ _ _ _ _ _ _ _ _ _ _ _ _ _ _ _ _ _ _ _ _ _ _ _ _ _ _ _ _ _ _ _ _ _ _ _ _ _ _ _ _ _ _ _ _ _ _ _ _ _ _ _ _ _ _ _ _ _ _ _ _ _ _ _ _ _ _ _ _ _ _ _ _ _ _ _ _ _ _ _ _ _ _ _ _ _ _ _ _ _ _ _ _ _ _ _ _ _ _ _ _ _ _ _ _ _ _ _ _

end Go.Proofs.YbulkcwciFmt
