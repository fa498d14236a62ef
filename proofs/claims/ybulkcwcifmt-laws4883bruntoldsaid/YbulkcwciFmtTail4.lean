import Derived.Test.YbulkcwciFmtTail5
namespace Go.Proofs.YbulkcwciFmt
open Go.RowKit Go.Deep

def Rel7 (E : Eds) (gl : Nat) (G : Nat → Bool) (cb : Nat) (W3 : World) (v227 : Value) (wr : World) : Prop :=
  ∃ i, i ≤ E.n ∧ v227 = .int .i64 i ∧ Below W3.heap.size W3 wr ∧ wr.heap[cb]? = some (.cells (bools (c2 E gl G i)).toArray 4 (0, 0))
def anyO (cs : List Bool) (n : Nat) (l : List Nat) : Bool := l.any fun o => cs.getD (o % n) false
theorem anyO_succ (cs : List Bool) (n : Nat) (l : List Nat) (m : Nat) (hm : m < l.length) : anyO cs n (l.take (m + 1)) = (anyO cs n (l.take m) || cs.getD (l.getD m 0 % n) false) := by
  unfold anyO
  rw [List.take_add_one, List.any_append, List.getD_eq_getElem?_getD (l := l), List.getElem?_eq_getElem hm]
  simp
theorem anyO_all (cs : List Bool) (n : Nat) (l : List Nat) : (((l.map (· % n)).map fun o => cs.getD o false).all fun b => !b) = !(anyO cs n l) := by
  unfold anyO
  induction l with
  | nil => rfl
  | cons a l ih =>
    simp only [List.map_cons, List.all_cons, List.any_cons, Bool.not_or, ih]
theorem bools_set (l : List Bool) (i : Nat) (b : Bool) : (bools l).toArray.setIfInBounds i (.bool b) = (bools (l.set i b)).toArray := by
  simp [bools, List.map_set]
theorem bools_get (l : List Bool) (j : Nat) (hj : j < l.length) : (bools l).toArray[j]? = some (.bool (l.getD j false)) := by
  simp [bools, List.getD_eq_getElem?_getD, List.getElem?_eq_getElem hj]

set_option maxHeartbeats 8000000 in
set_option maxRecDepth 100000 in
theorem tail4 (w0 : World) (r : List Ed) (rv : Value) (hr : RowAt w0 rv r) (hn : r.length ≤ 1024) (hoth : ∀ j, j < r.length → (r.getD j Ed.d).oth.length ≤ 256) (W3 : World) (b03 : Below w0.heap.size w0 W3) (c : Cfg) (sa : Addr) (her : c.er = .iface 62 (.pointer (some sa)))
    (k ends : Nat) (lv : Value) (log : List Int) (base : Nat) (hx : XB c k ends lv W3) (hl : W3.ownsRow base 3 1 lv log.length (ints log)) (gl : Nat) (G : Nat → Bool) (err : Value)
    (hgd : Good (eds r)) (hrun : RunEnd c (eds r) (c2 (eds r) gl G (eds r).n) log err) (cb : Nat) (hcb : W3.heap.size ≤ cb) (w : World) (b3 : Below W3.heap.size W3 w) (hc : w.heap[cb]? = some (.cells (bools (c2 (eds r) gl G 0)).toArray 4 (0, 0)))
    (u0 u1 u2 u3 u4 u5 u6 u7 u8 u9 u10 u11 u12 u13 u14 u15 u16 u17 u18 u19 u20 u21 u22 u24 u27 u28 u32 u33 u34 u35 u36 u37 u38 u39 u40 u41 u42 u43 u44 u45 u46 u47 u48 u49 u50 u51 u52 u53 u54 u55 u56 u57 u58 u59 u60 u61 u62 u63 u64 u65 u66 u67 u68 u69 u70 u71 u72 u73 u74 u75 u76 u77 u78 u79 u80 u81 u82 u83 u84 u85 u86 u87 u88 u89 u90 u91 u92 u93 u94 u95 u96 u97 u98 u99 u100 u101 u102 u103 u104 u105 u106 u107 u108 u109 u110 u111 u112 u113 u114 u115 u116 u117 u118 u119 u120 u121 u122 u123 u124 u125 u126 u127 u128 u129 u130 u131 u132 u133 u134 u135 u136 u137 u138 u139 u140 u141 u142 u143 u144 u145 u146 u147 u148 u149 u150 u151 u152 u153 u154 u155 u156 u157 u158 u159 u160 u161 u162 u163 u164 u165 u166 u167 u168 u169 u170 u171 u172 u173 u174 u175 u176 u177 u178 u179 u180 u181 u182 u183 u184 u185 u186 u187 u188 u189 u190 u191 u192 u193 u194 u195 u196 u197 u198 u199 u200 u201 u202 u203 u204 u205 u206 u207 u208 u209 u210 u211 u212 u213 u214 u215 u216 u217 u218 u219 u220 u221 u222 u223 u224 u225 u226 u227 u228 u229 u230 u231 u232 u233 u234 u235 u236 u237 u238 u239 u240 u241 u242 u243 u244 u245 u246 u247 u248 u249 u250 u251 u252 u253 u254 u255 u256 u257 u258 u259 u260 u261 u262 u263 u264 u265 u266 u267 u268 u269 u270 u271 u272 u273 u274 u275 u276 u277 u278 u279 u280 u281 u282 u283 u284 u285 u286 u287 u288 u289 u290 u291 u292 u293 u294 u295 u296 u297 u298 u299 u300 u301 u302 u303 u304 u305 u306 u307 u308 u309 u310 u311 u312 u313 u314 u315 u316 u317 u318 u319 u320 u321 u322 u323 u324 u325 u326 : Value) :
    (tailC 22 Ybaf.f3).wp Ybaf.prog (bodyPost Ybaf.prog Ybaf.f3 fun e w' => LawEnd w0 e w') ⟨#[u0, u1, u2, u3, u4, u5, u6, u7, u8, u9, u10, u11, u12, u13, u14, u15, u16, u17, u18, u19, u20, u21, u22, rv, u24, .iface 62 (.pointer (some sa)), .pointer (some ⟨c.xb, 0, none⟩), u27, u28, err, .int .i64 r.length, .slice (some ⟨cb, 0, none⟩) r.length r.length, u32, u33, u34, u35, u36, u37, u38, u39, u40, u41, u42, u43, u44, u45, u46, u47, u48, u49, u50, u51, u52, u53, u54, u55, u56, u57, u58, u59, u60, u61, u62, u63, u64, u65, u66, u67, u68, u69, u70, u71, u72, u73, u74, u75, u76, u77, u78, u79, u80, u81, u82, u83, u84, u85, u86, u87, u88, u89, u90, u91, u92, u93, u94, u95, u96, u97, u98, u99, u100, u101, u102, u103, u104, u105, u106, u107, u108, u109, u110, u111, u112, u113, u114, u115, u116, u117, u118, u119, u120, u121, u122, u123, u124, u125, u126, u127, u128, u129, u130, u131, u132, u133, u134, u135, u136, u137, u138, u139, u140, u141, u142, u143, u144, u145, u146, u147, u148, u149, u150, u151, u152, u153, u154, u155, u156, u157, u158, u159, u160, u161, u162, u163, u164, u165, u166, u167, u168, u169, u170, u171, u172, u173, u174, u175, u176, u177, u178, u179, u180, u181, u182, u183, u184, u185, u186, u187, u188, u189, u190, u191, u192, u193, u194, u195, u196, u197, u198, u199, u200, u201, u202, u203, u204, u205, u206, u207, u208, u209, u210, u211, u212, u213, u214, u215, u216, u217, u218, u219, u220, u221, u222, u223, u224, u225, u226, u227, u228, u229, u230, u231, u232, u233, u234, u235, u236, u237, u238, u239, u240, u241, u242, u243, u244, u245, u246, u247, u248, u249, u250, u251, u252, u253, u254, u255, u256, u257, u258, u259, u260, u261, u262, u263, u264, u265, u266, u267, u268, u269, u270, u271, u272, u273, u274, u275, u276, u277, u278, u279, u280, u281, u282, u283, u284, u285, u286, u287, u288, u289, u290, u291, u292, u293, u294, u295, u296, u297, u298, u299, u300, u301, u302, u303, u304, u305, u306, u307, u308, u309, u310, u311, u312, u313, u314, u315, u316, u317, u318, u319, u320, u321, u322, u323, u324, u325, u326], []⟩ w := by
  obtain ⟨a, ca, hrv, -⟩ := id hr
  have HR : Hid (RowAt w0 rv r) := hr
  have B03 : Hid (Below w0.heap.size w0 W3) := b03
  have HL : Hid (W3.ownsRow base 3 1 lv log.length (ints log)) := hl
  have HRUN : Hid (RunEnd c (eds r) (c2 (eds r) gl G (eds r).n) log err) := hrun
  have HGd : Hid (Good (eds r)) := hgd
  have HX : Hid (XB c k ends lv W3) := hx
  have HER : Hid (c.er = .iface 62 (.pointer (some sa))) := her
  have HC : Hid (w.heap[cb]? = some (.cells (bools (c2 (eds r) gl G 0)).toArray 4 (0, 0))) := hc
  have H3 : Hid (Below W3.heap.size W3 w) := b3
  have HOL : Hid (∀ j, j < r.length → (r.getD j Ed.d).oth.length ≤ 256) := hoth
  clear hl hrun hgd hx her hr b03 hc b3 hoth
  subst hrv
  refine wp_tail_k (n := 22) (f := Ybaf.f3) rfl fun K hK => ?_
  go_wp2
  go_loopw [227] (fun v227 wr => Rel7 (eds r) gl G cb W3 v227 wr) (fun v227 _ => r.length - (intOf v227).toNat)
  case atStart => exact ⟨0, Nat.zero_le _, rfl, H3.out, HC.out⟩
  case round =>
    obtain ⟨i, hin, rfl, hbel, hcc⟩ := hrel
    have hin' : i ≤ r.length := hin
    have HW : Hid (Below W3.heap.size W3 wr) := hbel
    have HCC : Hid (wr.heap[cb]? = some (.cells (bools (c2 (eds r) gl G i)).toArray 4 (0, 0))) := hcc
    have hcw : cb < wr.heap.size := lt_of_block hcc
    have hsz := hbel.size
    have hcl : (c2 (eds r) gl G i).length = r.length := c2_length _ _ _ _
    clear hbel hcc hin
    by_cases hlt : i < r.length
    · obtain ⟨a2, ca2, hv2, hrow⟩ := HR.out.below (B03.out.trans (HW.out.mono B03.out.size))
      simp only [Value.slice.injEq, true_and] at hv2
      obtain ⟨rfl, rfl⟩ := hv2
      obtain ⟨b, o, rfl, hb, hed⟩ := hrow (by omega)
      obtain ⟨hop, e0, ⟨ov, e1, oa, oc, rfl, hob, hoe⟩, e2, e3⟩ := hed i hlt
      have HG4 : Hid ((eds r).op i ≤ 3) := HGd.out i hlt
      obtain ⟨d, hd⟩ : ∃ d, r.getD i Ed.d = d := ⟨_, rfl⟩
      have hol := HOL.out i hlt
      rw [hd] at hop e0 e1 e2 e3 hob hoe hol
      have hopE : (eds r).op i = opOf d.op := by show opOf (r.getD i Ed.d).op = opOf d.op; rw [hd]
      have hoE : (eds r).oth i = d.oth.map (· % r.length) := by show (r.getD i Ed.d).oth.map (· % r.length) = _; rw [hd]
      have HOB : Hid (∀ m, m < d.oth.length → d.oth.getD m 0 < 256) := hob
      have HOE : Hid (Elems wr oa d.oth.length (fun m => .int .u8 (d.oth.getD m 0 : Nat))) := hoe
      have ho4 : opOf d.op ≤ 3 := by rw [← hopE]; exact HG4.out
      have h16 : opOf d.op = d.op % 4 := by
        unfold opOf at ho4 ⊢
        split at ho4
        · omega
        · rename_i h; rw [if_neg h]; omega
      have HOP : Hid ((eds r).op i = d.op % 4) := hopE.trans h16
      have HOT : Hid ((eds r).oth i = d.oth.map (· % r.length)) := hoE
      clear hed hd hob hoe hopE hoE ho4 h16 hrow
      by_cases h3 : d.op % 4 = 3
      · have t1 : ((d.op : Int) % 16 % 4 == 3) = true := by rw [beq_iff_eq]; omega
        have t2 : ((d.op : Int) % 4 == 3) = true := by rw [beq_iff_eq]; omega
        have H3' : Hid (d.op % 4 = 3) := h3
        have hfz : wr.frozen? ⟨cb, i, none⟩ = false := free_of HCC.out i
        have hci : ∃ v, wr.cell? ⟨cb, i, none⟩ = some v := ⟨_, (cell_of HCC.out i).trans (bools_get _ _ (by omega))⟩
        obtain ⟨vci, hci⟩ := hci
        obtain ⟨cs, hcs⟩ : ∃ l, c2 (eds r) gl G i = l := ⟨_, rfl⟩
        have HCS : Hid (c2 (eds r) gl G i = cs) := hcs
        rw [hcs] at HCC hcl
        have hr0 : ((r.length : Int) == 0) = false := by rw [beq_eq_false_iff_ne]; omega
        have hr1 : (r.length : Int) ≠ 0 := by omega
        have hr2 : r.length ≠ 0 := by omega
        clear h3 hcs
        go_wp2
        go_loop [39, 240] (fun v39 v240 => ∃ m, m ≤ d.oth.length ∧ v240 = .int .i64 m ∧ v39 = .bool (anyO cs r.length (d.oth.take m))) (fun _ v240 => d.oth.length - (intOf v240).toNat)
        case atStart => exact ⟨0, Nat.zero_le _, rfl, rfl⟩
        case round =>
          obtain ⟨m, hm, rfl, rfl⟩ := hrel
          by_cases hlt2 : m < d.oth.length
          · obtain ⟨ob, oo, rfl, hobl, hoc⟩ := HOE.out (by omega)
            have f1 := hoc m hlt2
            have hz := HOB.out m hlt2
            have HA : Hid (anyO cs r.length (d.oth.take (m + 1)) = (anyO cs r.length (d.oth.take m) || cs.getD (d.oth.getD m 0 % r.length) false)) := anyO_succ _ _ _ _ hlt2
            obtain ⟨z, hze⟩ : ∃ z, d.oth.getD m 0 = z := ⟨_, rfl⟩
            rw [hze] at HA hz
            simp only [hze] at f1
            obtain ⟨q, hqe⟩ : ∃ q, z % r.length = q := ⟨_, rfl⟩
            rw [hqe] at HA
            have hq : q < r.length := by rw [← hqe]; exact Nat.mod_lt _ (by omega)
            have hq1 : ((z : Int).tmod (r.length : Int)) = (q : Int) := by rw [← hqe]; simp [Int.natCast_emod, Int.tmod_eq_emod_of_nonneg]
            have hq2 : ((z : Int) % (r.length : Int)) = (q : Int) := by rw [← hqe]; simp [Int.natCast_emod]
            have f2 : wr.cell? ⟨cb, q, none⟩ = some (.bool (cs.getD q false)) := (cell_of HCC.out q).trans (bools_get _ _ (by omega))
            clear hoc hze hqe
            cases hb2 : cs.getD q false
            · rw [hb2] at f2 HA
              go_wp2
              go_round
              case rel => exact ⟨m + 1, hlt2, by go_num, by rw [HA.out, Bool.or_false]⟩
              case measure => simp [intOf]; omega
            · rw [hb2] at f2 HA
              go_wp2
              go_round
              case rel => exact ⟨m + 1, hlt2, by go_num, by rw [HA.out, Bool.or_true]⟩
              case measure => simp [intOf]; omega
          · obtain rfl : m = d.oth.length := by omega
            go_wp2
            go_roundw
            case rel =>
              refine ⟨i + 1, hlt, by go_num, (HW.out.setCell (p := ⟨cb, i, none⟩) hcb _).alloc (by simpa using hsz) _, ?_⟩
              have : c2 (eds r) gl G (i + 1) = (c2 (eds r) gl G i).set i ((((eds r).oth i).map fun o => (c2 (eds r) gl G i).getD o false).all fun b => !b) := if_pos (by rw [HOP.out]; exact H3'.out)
              rw [this, HCS.out, HOT.out, anyO_all, ← bools_set]
              exact (Below.heap_alloc _ _ _ (by simpa using hcw)).trans (set_block HCC.out)
            case measure => simp [intOf]; omega
      · have t1 : ((d.op : Int) % 16 % 4 == 3) = false := by rw [beq_eq_false_iff_ne]; omega
        have t2 : ((d.op : Int) % 4 == 3) = false := by rw [beq_eq_false_iff_ne]; omega
        have H3' : Hid (¬ d.op % 4 = 3) := h3
        clear h3
        go_wp2
        go_roundw
        case rel =>
          refine ⟨i + 1, hlt, by go_num, HW.out.alloc hsz _, ?_⟩
          have : c2 (eds r) gl G (i + 1) = c2 (eds r) gl G i := if_neg (by rw [HOP.out]; exact H3'.out)
          rw [this]
          exact (Below.heap_alloc _ _ _ hcw).trans HCC.out
        case measure => simp [intOf]; omega
    · obtain rfl : i = r.length := by omega
      go_wp2
      exact tail5 w0 r _ HR.out hn W3 B03.out c sa HER.out k ends lv log base HX.out HL.out (c2 (eds r) gl G (eds r).n) (c2_length _ _ _ _) err HGd.out HRUN.out cb wr HW.out HCC.out _ _ _ _ _ _ _ _ _ _ _ _ _ _ _ _ _ _ _ _ _ _ _ _ _ _ _ _ _ _ _ _ _ _ _ _ _ _ _ _ _ _ _ _ _ _ _ _ _ _ _ _ _ _ _ _ _ _ _ _ _ _ _ _ _ _ _ _ _ _ _ _ _ _ _ _ _ _ _ _ _ _ _ _ _ _ _ _ _ _ _ _ _ _ _ _ _ _ _ _ _ _ _ _ _ _ _ _ _ _ _ _ _ _ _ _ _ _ _ _ _ _ _ _ _ _ _ _ _ _ _ _ _ _ _ _ _ _ _ _ _ _ _ _ _ _ _ _ _ _ _ _ _ _ _ _ _ _ _ _ _ _ _ _ _ _ _ _ _ _ _ _ _ _ _ _ _ _ _ _ _ _ _ _ _ _ _ _ _ _ _ _ _ _ _ _ _ _ _ _ _ _ _ _ _ _ _ _ _ _ _ _ _ _ _ _ _ _ _ _ _ _ _ _ _ _ _ _ _ _ _ _ _ _ _ _ _ _ _ _ _ _ _ _ _ _ _ _ _ _ _ _ _ _ _ _ _ _ _ _ _ _ _ _ _ _ _ _ _ _ _ _ _ _ _ _ _ _ _ _ _ _ _ _ _ _ _ _ _ _ _ _ _ _ _ _ _ _ _ _ _ _ _ _ _ _ _ _ _ _ _ _ _ _ _ _ _ _ _ _ _

end Go.Proofs.YbulkcwciFmt
