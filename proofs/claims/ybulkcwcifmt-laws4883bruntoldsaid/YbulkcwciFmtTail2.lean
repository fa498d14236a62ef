import Derived.Test.YbulkcwciFmtTail2b
namespace Go.Proofs.YbulkcwciFmt
open Go.RowKit Go.Deep Go.Extern.Stop Go.Stop Go.Extern

/-- A location that the law has built. -/
def LocB (w : World) (lb i : Nat) (r : List Ed) : Prop := ∃ eb, w.cell? ⟨lb, i * 6 + 4, none⟩ = some (.slice (some ⟨eb, 0, none⟩) r.length r.length) ∧ eb < w.heap.size ∧ ∀ j, j < r.length → EdB w eb j (eds r)
def Fits (L : List (List Ed)) : Prop := ∀ i, i < L.length → (L.getD i []).length ≤ 1024 ∧ ∀ j, j < (L.getD i []).length → ((L.getD i []).getD j Ed.d).oth.length ≤ 256

set_option maxHeartbeats 8000000 in
set_option maxRecDepth 100000 in
theorem tail2 (F : Interp) (w0 : World) (hF : F.answers w0.tape) (L : List (List Ed)) (LA : Option Addr) (lc : Nat) (hL : LocsAt w0 (.slice LA L.length lc) L) (hn : L.length ≤ 1024) (hfit : Fits L) (W : World) (b02 : Below w0.heap.size w0 W)
    (l : Nat) (hl : l < 65536) (GA : Option Addr) (gl gc : Nat) (G : Nat → Bool) (hgl : gl ≤ 1024) (hga : Elems w0 GA gl (fun j => .bool (G j))) (f : Nat) (hf : f < 256) (lb : Nat) (hlb : lb < W.heap.size) (hB : ∀ i, i < L.length → LocB W lb i (L.getD i []))
    (u4 u5 u6 u7 u8 u9 u10 u11 u12 u13 u15 u16 u17 u18 u19 u20 u21 u22 u23 u24 u25 u26 u27 u28 u29 u30 u31 u32 u33 u34 u35 u36 u37 u38 u39 u40 u41 u42 u43 u44 u45 u46 u47 u48 u49 u50 u51 u52 u53 u54 u55 u56 u57 u58 u59 u60 u61 u62 u63 u64 u65 u66 u67 u68 u69 u70 u71 u72 u73 u74 u75 u76 u77 u78 u79 u80 u81 u82 u83 u84 u85 u86 u87 u88 u89 u90 u91 u92 u93 u94 u95 u96 u97 u98 u99 u100 u101 u102 u103 u104 u105 u106 u107 u108 u109 u110 u111 u112 u113 u114 u115 u116 u117 u118 u119 u120 u121 u122 u123 u124 u125 u126 u127 u128 u129 u130 u131 u132 u133 u134 u135 u136 u137 u138 u139 u140 u141 u142 u143 u144 u145 u146 u147 u148 u149 u150 u151 u152 u153 u154 u155 u156 u157 u158 u159 u160 u161 u162 u163 u164 u165 u166 u167 u168 u169 u170 u171 u172 u173 u174 u175 u176 u177 u178 u179 u180 u181 u182 u183 u184 u185 u186 u187 u188 u189 u190 u191 u192 u193 u194 u195 u196 u197 u198 u199 u200 u201 u202 u203 u204 u205 u206 u207 u208 u209 u210 u211 u212 u213 u214 u215 u216 u217 u218 u219 u220 u221 u222 u223 u224 u225 u226 u227 u228 u229 u230 u231 u232 u233 u234 u235 u236 u237 u238 u239 u240 u241 u242 u243 u244 u245 u246 u247 u248 u249 u250 u251 u252 u253 u254 u255 u256 u257 u258 u259 u260 u261 u262 u263 u264 u265 u266 u267 u268 u269 u270 u271 u272 u273 u274 u275 u276 u277 u278 u279 u280 u281 u282 u283 u284 u285 u286 u287 u288 u289 u290 u291 u292 u293 u294 u295 u296 u297 u298 u299 u300 u301 u302 u303 u304 u305 u306 u307 u308 u309 u310 u311 u312 u313 u314 u315 u316 u317 u318 u319 u320 u321 u322 u323 u324 u325 u326 : Value) :
    (tailC 7 Ybaf.f3).wp Ybaf.prog (bodyPost Ybaf.prog Ybaf.f3 fun e w' => LawEnd w0 e w') ⟨#[.slice LA L.length lc, .int .u16 l, .slice GA gl gc, .int .u8 f, u4, u5, u6, u7, u8, u9, u10, u11, u12, u13, .slice (some ⟨lb, 0, none⟩) L.length L.length, u15, u16, u17, u18, u19, u20, u21, u22, u23, u24, u25, u26, u27, u28, u29, u30, u31, u32, u33, u34, u35, u36, u37, u38, u39, u40, u41, u42, u43, u44, u45, u46, u47, u48, u49, u50, u51, u52, u53, u54, u55, u56, u57, u58, u59, u60, u61, u62, u63, u64, u65, u66, u67, u68, u69, u70, u71, u72, u73, u74, u75, u76, u77, u78, u79, u80, u81, u82, u83, u84, u85, u86, u87, u88, u89, u90, u91, u92, u93, u94, u95, u96, u97, u98, u99, u100, u101, u102, u103, u104, u105, u106, u107, u108, u109, u110, u111, u112, u113, u114, u115, u116, u117, u118, u119, u120, u121, u122, u123, u124, u125, u126, u127, u128, u129, u130, u131, u132, u133, u134, u135, u136, u137, u138, u139, u140, u141, u142, u143, u144, u145, u146, u147, u148, u149, u150, u151, u152, u153, u154, u155, u156, u157, u158, u159, u160, u161, u162, u163, u164, u165, u166, u167, u168, u169, u170, u171, u172, u173, u174, u175, u176, u177, u178, u179, u180, u181, u182, u183, u184, u185, u186, u187, u188, u189, u190, u191, u192, u193, u194, u195, u196, u197, u198, u199, u200, u201, u202, u203, u204, u205, u206, u207, u208, u209, u210, u211, u212, u213, u214, u215, u216, u217, u218, u219, u220, u221, u222, u223, u224, u225, u226, u227, u228, u229, u230, u231, u232, u233, u234, u235, u236, u237, u238, u239, u240, u241, u242, u243, u244, u245, u246, u247, u248, u249, u250, u251, u252, u253, u254, u255, u256, u257, u258, u259, u260, u261, u262, u263, u264, u265, u266, u267, u268, u269, u270, u271, u272, u273, u274, u275, u276, u277, u278, u279, u280, u281, u282, u283, u284, u285, u286, u287, u288, u289, u290, u291, u292, u293, u294, u295, u296, u297, u298, u299, u300, u301, u302, u303, u304, u305, u306, u307, u308, u309, u310, u311, u312, u313, u314, u315, u316, u317, u318, u319, u320, u321, u322, u323, u324, u325, u326], []⟩ W := by
  have HF : Hid (F.answers w0.tape) := hF
  have HL : Hid (LocsAt w0 (.slice LA L.length lc) L) := hL
  have HFIT : Hid (Fits L) := hfit
  have B02 : Hid (Below w0.heap.size w0 W) := b02
  have HGA : Hid (Elems w0 GA gl (fun j => .bool (G j))) := hga
  have HB : Hid (∀ i, i < L.length → LocB W lb i (L.getD i [])) := hB
  clear hF hL hfit b02 hga hB
  refine wp_tail_k (n := 7) (f := Ybaf.f3) rfl fun K hK => ?_
  go_wp2
  by_cases h0 : L.length = 0
  · have h0' : ((L.length : Int) == 0) = true := by rw [beq_iff_eq]; omega
    rw [h0]
    refine wp_tail_k (n := 8) (f := Ybaf.f3) rfl fun K hK => ?_
    go_wp2
    refine wp_tail_k (n := 9) (f := Ybaf.f3) rfl fun K hK => ?_
    go_wp2
    refine wp_tail_k (n := 10) (f := Ybaf.f3) rfl fun K hK => ?_
    go_wp2
    refine tail2b F w0 HF.out [] _ ⟨none, 0, rfl, fun h => absurd h (by decide)⟩ (by decide) (fun j hj => absurd hj (by simp)) _ (B02.out.alloc B02.out.size _) GA gl gc G hgl HGA.out f hf W.heap.size 1 1 0 (by simp) (by omega) (by omega) none 0 ?_ (fun h => absurd h (by decide)) _ _ _ _ _ _ _ _ _ _ _ _ _ _ _ _ _ _ _ _ _ _ _ _ _ _ _ _ _ _ _ _ _ _ _ _ _ _ _ _ _ _ _ _ _ _ _ _ _ _ _ _ _ _ _ _ _ _ _ _ _ _ _ _ _ _ _ _ _ _ _ _ _ _ _ _ _ _ _ _ _ _ _ _ _ _ _ _ _ _ _ _ _ _ _ _ _ _ _ _ _ _ _ _ _ _ _ _ _ _ _ _ _ _ _ _ _ _ _ _ _ _ _ _ _ _ _ _ _ _ _ _ _ _ _ _ _ _ _ _ _ _ _ _ _ _ _ _ _ _ _ _ _ _ _ _ _ _ _ _ _ _ _ _ _ _ _ _ _ _ _ _ _ _ _ _ _ _ _ _ _ _ _ _ _ _ _ _ _ _ _ _ _ _ _ _ _ _ _ _ _ _ _ _ _ _ _ _ _ _ _ _ _ _ _ _ _ _ _ _ _ _ _ _ _ _ _ _ _ _ _ _ _ _ _ _ _ _ _ _ _ _ _ _ _ _ _ _ _ _ _ _ _ _ _ _ _ _ _ _ _ _ _ _ _ _ _ _ _ _ _ _ _ _ _ _ _ _ _ _ _ _ _ _ _ _ _ _ _ _ _ _ _ _ _ _ _ _ _ _ _ _ _ _ _ _ _ _ _ _ _ _ _ _ _ _ _ _ _ _ _ _
    exact (World.cell?_alloc_new W _ _ _).trans rfl
  · have h0' : ((L.length : Int) == 0) = false := by rw [beq_eq_false_iff_ne]; omega
    have hpos : (0 : Int) < (L.length : Int) := by omega
    have hr1 : (L.length : Int) ≠ 0 := by omega
    obtain ⟨q, hqe⟩ : ∃ q, l % L.length = q := ⟨_, rfl⟩
    have hq : q < L.length := by rw [← hqe]; exact Nat.mod_lt _ (by omega)
    have hq1 : ((l : Int).tmod (L.length : Int)) = (q : Int) := by rw [← hqe]; simp [Int.natCast_emod, Int.tmod_eq_emod_of_nonneg]
    have hq2 : ((l : Int) % (L.length : Int)) = (q : Int) := by rw [← hqe]; simp [Int.natCast_emod]
    obtain ⟨a2, ca2, hv2, hrow⟩ := HL.out
    simp only [Value.slice.injEq, true_and] at hv2
    obtain ⟨rfl, rfl⟩ := hv2
    obtain ⟨b, o, rfl, hb, hall⟩ := hrow (by omega)
    obtain ⟨rv, hc, hra⟩ := hall q hq
    have hc2 : W.cell? ⟨b, o + q, none⟩ = some rv := (B02.out.cell (p := ⟨b, o + q, none⟩) hb).trans hc
    have HRA : Hid (RowAt w0 rv (L.getD q [])) := hra
    clear hqe hc hra hall hrow
    refine wp_tail_k (n := 8) (f := Ybaf.f3) rfl fun K hK => ?_
    go_wp2
    refine wp_tail_k (n := 9) (f := Ybaf.f3) rfl fun K hK => ?_
    go_wp2
    refine wp_tail_k (n := 10) (f := Ybaf.f3) rfl fun K hK => ?_
    go_wp2
    obtain ⟨eb, h1, h2, h3⟩ := HB.out q hq
    exact tail2b F w0 HF.out (L.getD q []) rv HRA.out (HFIT.out q hq).1 (HFIT.out q hq).2 W B02.out GA gl gc G hgl HGA.out f hf lb L.length L.length q hlb hq (by omega) (some ⟨eb, 0, none⟩) (L.getD q []).length h1 (fun _ => ⟨eb, rfl, h2, h3⟩) _ _ _ _ _ _ _ _ _ _ _ _ _ _ _ _ _ _ _ _ _ _ _ _ _ _ _ _ _ _ _ _ _ _ _ _ _ _ _ _ _ _ _ _ _ _ _ _ _ _ _ _ _ _ _ _ _ _ _ _ _ _ _ _ _ _ _ _ _ _ _ _ _ _ _ _ _ _ _ _ _ _ _ _ _ _ _ _ _ _ _ _ _ _ _ _ _ _ _ _ _ _ _ _ _ _ _ _ _ _ _ _ _ _ _ _ _ _ _ _ _ _ _ _ _ _ _ _ _ _ _ _ _ _ _ _ _ _ _ _ _ _ _ _ _ _ _ _ _ _ _ _ _ _ _ _ _ _ _ _ _ _ _ _ _ _ _ _ _ _ _ _ _ _ _ _ _ _ _ _ _ _ _ _ _ _ _ _ _ _ _ _ _ _ _ _ _ _ _ _ _ _ _ _ _ _ _ _ _ _ _ _ _ _ _ _ _ _ _ _ _ _ _ _ _ _ _ _ _ _ _ _ _ _ _ _ _ _ _ _ _ _ _ _ _ _ _ _ _ _ _ _ _ _ _ _ _ _ _ _ _ _ _ _ _ _ _ _ _ _ _ _ _ _ _ _ _ _ _ _ _ _ _ _ _ _ _ _ _ _ _ _ _ _ _ _ _ _ _ _ _ _ _ _ _ _ _ _ _ _ _ _ _ _ _ _ _ _ _ _ _ _

end Go.Proofs.YbulkcwciFmt
