import Derived.Test.YbulkcwciFmtTail4
namespace Go.Proofs.YbulkcwciFmt
open Go.RowKit Go.Deep

/-- The block of a row that 'make' has laid. -/
theorem made_block {w : World} {base e s n B : Nat} {xs : List Value} (h : w.ownsRow base e s (.slice (some ⟨B, 0, none⟩) n n) n xs) : w.heap[B]? = some (.cells xs.toArray e (0, 0)) := by
  rcases h.2 with ⟨e, _⟩ | ⟨g, cap, cur, e, _, hg, _, _, hs, ht⟩
  · cases e
  · simp only [Value.slice.injEq, Option.some.injEq, Addr.mk.injEq, and_true, true_and] at e
    obtain ⟨rfl, rfl⟩ := e
    have : cur.toList = xs := by rw [← ht, List.take_of_length_le (by simp [hs])]
    rw [hg, ← this]
theorem made_one (v : Value) (m : Nat) : (madeCells #[v] m).toList = List.replicate m v := by
  simp [madeCells, Nat.mod_one, List.map_const']
/-- The conditions behind i edges of the law's own first pass. -/
def row6 (op : Nat → Nat) (gl : Nat) (G : Nat → Bool) (n i : Nat) : List Bool := pass1 op gl G i ++ List.replicate (n - i) false
theorem row6_zero (op : Nat → Nat) (gl : Nat) (G : Nat → Bool) (n : Nat) : row6 op gl G n 0 = List.replicate n false := by simp [row6, pass1]
theorem row6_all (op : Nat → Nat) (gl : Nat) (G : Nat → Bool) (n : Nat) : row6 op gl G n n = pass1 op gl G n := by simp [row6]
theorem row6_length (op : Nat → Nat) (gl : Nat) (G : Nat → Bool) (n i : Nat) (h : i ≤ n) : (row6 op gl G n i).length = n := by simp [row6, pass1_length]; omega
theorem row6_set (op : Nat → Nat) (gl : Nat) (G : Nat → Bool) (n i : Nat) (h : i < n) : (row6 op gl G n i).set i (c1 op gl G i) = row6 op gl G n (i + 1) := by
  unfold row6
  obtain ⟨k, hk⟩ : ∃ k, n - i = k + 1 := ⟨n - i - 1, by omega⟩
  rw [List.set_append_right _ _ (by rw [pass1_length]; exact Nat.le_refl _), pass1_length, Nat.sub_self, hk, List.replicate_succ, List.set_cons_zero, pass1_succ, List.append_assoc, show n - (i + 1) = k by omega]
  rfl
theorem row6_same (op : Nat → Nat) (gl : Nat) (G : Nat → Bool) (n i : Nat) (h : i < n) (hc : c1 op gl G i = false) : row6 op gl G n (i + 1) = row6 op gl G n i := by
  unfold row6
  obtain ⟨k, hk⟩ : ∃ k, n - i = k + 1 := ⟨n - i - 1, by omega⟩
  rw [pass1_succ, hc, hk, List.replicate_succ, List.append_assoc, show n - (i + 1) = k by omega]
  rfl
def Rel6 (E : Eds) (gl : Nat) (G : Nat → Bool) (cb : Nat) (W3 : World) (v32 v33 v180 : Value) (wr : World) : Prop :=
  ∃ i, i ≤ E.n ∧ v180 = .int .i64 i ∧ v32 = .int .i64 (gk E.op i) ∧ v33 = .bool false ∧ (∀ j, j < i → E.op j ≤ 3) ∧ Below W3.heap.size W3 wr ∧ wr.heap[cb]? = some (.cells (bools (row6 E.op gl G E.n i)).toArray 4 (0, 0))
/-- What the step has left, as the law meets it. -/
def StepSaid (c : Cfg) (E : Eds) (gl : Nat) (G : Nat → Bool) (log : List Int) (err : Value) : Prop :=
  (Bad E ∧ log = [] ∧ ∃ a, err = .iface 62 (.pointer (some a))) ∨ (Good E ∧ RunEnd c E (c2 E gl G E.n) log err)

set_option maxHeartbeats 8000000 in
set_option maxRecDepth 100000 in
theorem tail3 (w0 : World) (r : List Ed) (rv : Value) (hr : RowAt w0 rv r) (hn : r.length ≤ 1024) (hoth : ∀ j, j < r.length → (r.getD j Ed.d).oth.length ≤ 256) (W3 : World) (b03 : Below w0.heap.size w0 W3) (c : Cfg) (sa : Addr) (her : c.er = .iface 62 (.pointer (some sa)))
    (k ends : Nat) (lv : Value) (log : List Int) (base : Nat) (hx : XB c k ends lv W3) (hl : W3.ownsRow base 3 1 lv log.length (ints log)) (GA : Option Addr) (gl gc : Nat) (G : Nat → Bool) (hgl : gl ≤ 1024) (hga : Elems w0 GA gl (fun j => .bool (G j))) (err : Value)
    (hsaid : StepSaid c (eds r) gl G log err)
    (u0 u1 u3 u4 u5 u6 u7 u8 u9 u10 u11 u12 u13 u14 u15 u16 u17 u18 u19 u20 u21 u22 u24 u27 u28 u30 u31 u32 u33 u34 u35 u36 u37 u38 u39 u40 u41 u42 u43 u44 u45 u46 u47 u48 u49 u50 u51 u52 u53 u54 u55 u56 u57 u58 u59 u60 u61 u62 u63 u64 u65 u66 u67 u68 u69 u70 u71 u72 u73 u74 u75 u76 u77 u78 u79 u80 u81 u82 u83 u84 u85 u86 u87 u88 u89 u90 u91 u92 u93 u94 u95 u96 u97 u98 u99 u100 u101 u102 u103 u104 u105 u106 u107 u108 u109 u110 u111 u112 u113 u114 u115 u116 u117 u118 u119 u120 u121 u122 u123 u124 u125 u126 u127 u128 u129 u130 u131 u132 u133 u134 u135 u136 u137 u138 u139 u140 u141 u142 u143 u144 u145 u146 u147 u148 u149 u150 u151 u152 u153 u154 u155 u156 u157 u158 u159 u160 u161 u162 u163 u164 u165 u166 u167 u168 u169 u170 u171 u172 u173 u174 u175 u176 u177 u178 u179 u180 u181 u182 u183 u184 u185 u186 u187 u188 u189 u190 u191 u192 u193 u194 u195 u196 u197 u198 u199 u200 u201 u202 u203 u204 u205 u206 u207 u208 u209 u210 u211 u212 u213 u214 u215 u216 u217 u218 u219 u220 u221 u222 u223 u224 u225 u226 u227 u228 u229 u230 u231 u232 u233 u234 u235 u236 u237 u238 u239 u240 u241 u242 u243 u244 u245 u246 u247 u248 u249 u250 u251 u252 u253 u254 u255 u256 u257 u258 u259 u260 u261 u262 u263 u264 u265 u266 u267 u268 u269 u270 u271 u272 u273 u274 u275 u276 u277 u278 u279 u280 u281 u282 u283 u284 u285 u286 u287 u288 u289 u290 u291 u292 u293 u294 u295 u296 u297 u298 u299 u300 u301 u302 u303 u304 u305 u306 u307 u308 u309 u310 u311 u312 u313 u314 u315 u316 u317 u318 u319 u320 u321 u322 u323 u324 u325 u326 : Value) :
    (tailC 16 Ybaf.f3).wp Ybaf.prog (bodyPost Ybaf.prog Ybaf.f3 fun e w' => LawEnd w0 e w') ⟨#[u0, u1, .slice GA gl gc, u3, u4, u5, u6, u7, u8, u9, u10, u11, u12, u13, u14, u15, u16, u17, u18, u19, u20, u21, u22, rv, u24, .iface 62 (.pointer (some sa)), .pointer (some ⟨c.xb, 0, none⟩), u27, u28, err, u30, u31, u32, u33, u34, u35, u36, u37, u38, u39, u40, u41, u42, u43, u44, u45, u46, u47, u48, u49, u50, u51, u52, u53, u54, u55, u56, u57, u58, u59, u60, u61, u62, u63, u64, u65, u66, u67, u68, u69, u70, u71, u72, u73, u74, u75, u76, u77, u78, u79, u80, u81, u82, u83, u84, u85, u86, u87, u88, u89, u90, u91, u92, u93, u94, u95, u96, u97, u98, u99, u100, u101, u102, u103, u104, u105, u106, u107, u108, u109, u110, u111, u112, u113, u114, u115, u116, u117, u118, u119, u120, u121, u122, u123, u124, u125, u126, u127, u128, u129, u130, u131, u132, u133, u134, u135, u136, u137, u138, u139, u140, u141, u142, u143, u144, u145, u146, u147, u148, u149, u150, u151, u152, u153, u154, u155, u156, u157, u158, u159, u160, u161, u162, u163, u164, u165, u166, u167, u168, u169, u170, u171, u172, u173, u174, u175, u176, u177, u178, u179, u180, u181, u182, u183, u184, u185, u186, u187, u188, u189, u190, u191, u192, u193, u194, u195, u196, u197, u198, u199, u200, u201, u202, u203, u204, u205, u206, u207, u208, u209, u210, u211, u212, u213, u214, u215, u216, u217, u218, u219, u220, u221, u222, u223, u224, u225, u226, u227, u228, u229, u230, u231, u232, u233, u234, u235, u236, u237, u238, u239, u240, u241, u242, u243, u244, u245, u246, u247, u248, u249, u250, u251, u252, u253, u254, u255, u256, u257, u258, u259, u260, u261, u262, u263, u264, u265, u266, u267, u268, u269, u270, u271, u272, u273, u274, u275, u276, u277, u278, u279, u280, u281, u282, u283, u284, u285, u286, u287, u288, u289, u290, u291, u292, u293, u294, u295, u296, u297, u298, u299, u300, u301, u302, u303, u304, u305, u306, u307, u308, u309, u310, u311, u312, u313, u314, u315, u316, u317, u318, u319, u320, u321, u322, u323, u324, u325, u326], []⟩ W3 := by
  obtain ⟨i0, hi, hz0, hz1, hz2⟩ := info_parts Ybaf.info4
  obtain ⟨a, ca, hrv, -⟩ := id hr
  have HR : Hid (RowAt w0 rv r) := hr
  have HOL : Hid (∀ j, j < r.length → (r.getD j Ed.d).oth.length ≤ 256) := hoth
  have B03 : Hid (Below w0.heap.size w0 W3) := b03
  have HL : Hid (W3.ownsRow base 3 1 lv log.length (ints log)) := hl
  have HS : Hid (StepSaid c (eds r) gl G log err) := hsaid
  have HX : Hid (XB c k ends lv W3) := hx
  have HER : Hid (c.er = .iface 62 (.pointer (some sa))) := her
  have HGA : Hid (Elems w0 GA gl (fun j => .bool (G j))) := hga
  clear hl hsaid hx her hr b03 hoth hga
  subst hrv
  refine wp_tail_k (n := 16) (f := Ybaf.f3) rfl fun K hK => ?_
  go_wp2
  refine wp_tail_k (n := 17) (f := Ybaf.f3) rfl fun K hK => ?_
  go_wp2_with (at_make; refine wpList_make_full _ rfl _ _ 24 rfl W3.heap.size 4 i0 (.bool false) 1 Ybaf.underlying24 hi hz0 hz1 _ _ _ _ r.length rfl rfl rfl rfl (by rw [hz2]; omega) (by unfold maxLen; omega) (Nat.le_refl _) ?_)
  intro w4 hown hgrow
  have hc4 : w4.heap[W3.heap.size]? = some (.cells (bools (List.replicate r.length false)).toArray 4 (0, 0)) := by
    have := made_block hown
    rw [this]
    simp [made_one, bools]
  have HB4 : Hid (Below W3.heap.size W3 w4) := (Below.refl _ _).grown hgrow (Nat.le_refl _) (fun k hk => by cases hk)
  have HC4 : Hid (w4.heap[W3.heap.size]? = some (.cells (bools (List.replicate r.length false)).toArray 4 (0, 0))) := hc4
  clear hown hgrow hc4
  generalize hcbe : W3.heap.size = cb at HC4 ⊢
  have HCB : Hid (W3.heap.size = cb) := hcbe
  clear hcbe
  go_wp2
  refine wp_tail_k (n := 18) (f := Ybaf.f3) rfl fun K hK => ?_
  go_wp2
  refine wp_tail_k (n := 19) (f := Ybaf.f3) rfl fun K hK => ?_
  go_wp2
  refine wp_tail_k (n := 20) (f := Ybaf.f3) rfl fun K hK => ?_
  go_wp2
  go_loopw [32, 33, 180] (fun v32 v33 v180 wr => Rel6 (eds r) gl G cb W3 v32 v33 v180 wr) (fun _ _ v180 _ => r.length - (intOf v180).toNat)
  case atStart => exact ⟨0, Nat.zero_le _, rfl, rfl, rfl, fun j hj => absurd hj (by omega), HB4.out, by rw [row6_zero]; exact HC4.out⟩
  case round =>
    obtain ⟨i, hin, rfl, rfl, rfl, hgd, hbel, hcc⟩ := hrel
    have hin' : i ≤ r.length := hin
    have HG : Hid (∀ j, j < i → (eds r).op j ≤ 3) := hgd
    have HW : Hid (Below W3.heap.size W3 wr) := hbel
    have HCC : Hid (wr.heap[cb]? = some (.cells (bools (row6 (eds r).op gl G r.length i)).toArray 4 (0, 0))) := hcc
    have hcw : cb < wr.heap.size := lt_of_block hcc
    have hsz := hbel.size
    have hgk := gk_le (eds r).op i
    have hrl : (row6 (eds r).op gl G r.length i).length = r.length := row6_length _ _ _ _ _ hin'
    clear hbel hcc hin hgd
    by_cases hlt : i < r.length
    · obtain ⟨a2, ca2, hv2, hrow⟩ := HR.out.below (B03.out.trans (HW.out.mono B03.out.size))
      simp only [Value.slice.injEq, true_and] at hv2
      obtain ⟨rfl, rfl⟩ := hv2
      obtain ⟨b, o, rfl, hb, hed⟩ := hrow (by omega)
      obtain ⟨hop, e0, ⟨ov, e1, oa, oc, rfl, hob, hoe⟩, e2, e3⟩ := hed i hlt
      obtain ⟨d, hd⟩ : ∃ d, r.getD i Ed.d = d := ⟨_, rfl⟩
      rw [hd] at hop e0 e1 e2 e3
      have HOPE : Hid ((eds r).op i = opOf d.op) := by show opOf (r.getD i Ed.d).op = opOf d.op; rw [hd]
      clear hed hd hob hoe hrow
      by_cases h15 : d.op % 16 = 15
      · have t15 : ((d.op : Int) % 16 == 15) = true := by rw [beq_iff_eq]; omega
        have HBAD : Hid (Bad (eds r)) := ⟨i, hlt, by rw [HOPE.out]; exact if_pos h15⟩
        clear h15
        have lx : c.xb < W3.heap.size := lt_of_block HX.out
        have lx2 : c.xb < wr.heap.size := Nat.lt_of_lt_of_le lx hsz
        obtain ⟨rfl, ea, rfl⟩ : log = [] ∧ ∃ a, err = .iface 62 (.pointer (some a)) := by
          rcases HS.out with ⟨_, h1, h2⟩ | ⟨h1, _⟩
          · exact ⟨h1, h2⟩
          · obtain ⟨j, hj, e⟩ := HBAD.out
            have := h1 j hj
            omega
        obtain ⟨A, cap, rfl, -⟩ := elems_ints HL.out
        have xl : wr.cell? ⟨c.xb, 4, none⟩ = some (.slice A 0 cap) := (HW.out.cell (p := ⟨c.xb, 4, none⟩) lx).trans ((cell_of HX.out 4).trans rfl)
        go_wp2
        refine wp_tail_k (n := 21) (f := Ybaf.f3) rfl fun K hK => ?_
        go_wp2
        go_ret
        exact ⟨rfl, (B03.out.trans (HW.out.mono B03.out.size)).alloc (Nat.le_trans B03.out.size hsz) _⟩
      · have t15 : ((d.op : Int) % 16 == 15) = false := by rw [beq_eq_false_iff_ne]; omega
        have HOP : Hid ((eds r).op i = d.op % 4) := by
          show (eds r).op i = d.op % 4
          rw [HOPE.out]; unfold opOf; rw [if_neg h15]; omega
        clear h15
        have HG2 : Hid (∀ j, j < i + 1 → (eds r).op j ≤ 3) := fun j hj => by
          by_cases e : j = i
          · subst e; rw [HOP.out]; omega
          · exact HG.out j (by omega)
        have hfz : wr.frozen? ⟨cb, i, none⟩ = false := free_of HCC.out i
        obtain ⟨vci, hci⟩ : ∃ v, wr.cell? ⟨cb, i, none⟩ = some v := ⟨_, (cell_of HCC.out i).trans (bools_get _ _ (by omega))⟩
        have key : Hid (∀ b, c1 (eds r).op gl G i = b → ∀ o : Obj, Below W3.heap.size W3 ((wr.setCell ⟨cb, i, none⟩ (.bool b)).alloc o) ∧ ((wr.setCell ⟨cb, i, none⟩ (.bool b)).alloc o).heap[cb]? = some (.cells (bools (row6 (eds r).op gl G r.length (i + 1))).toArray 4 (0, 0))) := fun b hb o => by
          refine ⟨(HW.out.setCell (p := ⟨cb, i, none⟩) (by rw [HCB.out]; exact Nat.le_refl _) _).alloc (by simpa using hsz) _, ?_⟩
          rw [← row6_set _ _ _ _ _ hlt, hb, ← bools_set]
          exact (Below.heap_alloc _ _ _ (by simpa using hcw)).trans (set_block HCC.out)
        have key0 : Hid (c1 (eds r).op gl G i = false → ∀ o : Obj, Below W3.heap.size W3 (wr.alloc o) ∧ (wr.alloc o).heap[cb]? = some (.cells (bools (row6 (eds r).op gl G r.length (i + 1))).toArray 4 (0, 0))) := fun hb o => by
          refine ⟨HW.out.alloc hsz _, ?_⟩
          rw [row6_same _ _ _ _ _ hlt hb]
          exact (Below.heap_alloc _ _ _ hcw).trans HCC.out
        rcases (show d.op % 4 = 0 ∨ d.op % 4 = 1 ∨ d.op % 4 = 2 ∨ d.op % 4 = 3 by omega) with h4 | h4 | h4 | h4
        · have HN : Hid (¬ (eds r).op i = 1) := by show ¬ (eds r).op i = 1; rw [HOP.out, h4]; decide
          have H1 : Hid (c1 (eds r).op gl G i = true) := if_pos (by rw [HOP.out, h4]; decide)
          have ta0 : ((d.op : Int) % 16 % 4 == 0) = true := by rw [beq_iff_eq]; omega
          have tb0 : ((d.op : Int) % 4 == 0) = true := by rw [beq_iff_eq]; omega
          have ta1 : ((d.op : Int) % 16 % 4 == 1) = false := by rw [beq_eq_false_iff_ne]; omega
          have tb1 : ((d.op : Int) % 4 == 1) = false := by rw [beq_eq_false_iff_ne]; omega
          have ta2 : ((d.op : Int) % 16 % 4 == 2) = false := by rw [beq_eq_false_iff_ne]; omega
          have tb2 : ((d.op : Int) % 4 == 2) = false := by rw [beq_eq_false_iff_ne]; omega
          clear h4
          go_wp2
          go_roundw
          case rel =>
            have hk : gk (eds r).op (i + 1) = gk (eds r).op i := if_neg HN.out
            exact ⟨i + 1, hlt, by go_num, by rw [hk], rfl, HG2.out, (key.out _ H1.out _).1, (key.out _ H1.out _).2⟩
          case measure => simp [intOf]; omega
        · have HK : Hid (gk (eds r).op (i + 1) = gk (eds r).op i + 1) := if_pos (by rw [HOP.out, h4])
          have H1 : Hid (c1 (eds r).op gl G i = gv gl G (gk (eds r).op i)) := by
            show c1 (eds r).op gl G i = _
            unfold c1
            rw [if_neg (by rw [HOP.out, h4]; decide), if_pos (by rw [HOP.out, h4])]
          have ta0 : ((d.op : Int) % 16 % 4 == 0) = false := by rw [beq_eq_false_iff_ne]; omega
          have tb0 : ((d.op : Int) % 4 == 0) = false := by rw [beq_eq_false_iff_ne]; omega
          have ta1 : ((d.op : Int) % 16 % 4 == 1) = true := by rw [beq_iff_eq]; omega
          have tb1 : ((d.op : Int) % 4 == 1) = true := by rw [beq_iff_eq]; omega
          have ta2 : ((d.op : Int) % 16 % 4 == 2) = false := by rw [beq_eq_false_iff_ne]; omega
          have tb2 : ((d.op : Int) % 4 == 2) = false := by rw [beq_eq_false_iff_ne]; omega
          clear h4
          by_cases hk : gk (eds r).op i < gl
          · obtain ⟨b2, o2, rfl, hb2, hg2⟩ := HGA.out (by omega)
            have lb2 : b2 < wr.heap.size := Nat.lt_of_lt_of_le hb2 (Nat.le_trans B03.out.size hsz)
            have gg : wr.cell? ⟨b2, o2 + gk (eds r).op i, none⟩ = some (.bool (G (gk (eds r).op i))) := ((B03.out.trans (HW.out.mono B03.out.size)).cell (p := ⟨b2, o2 + gk (eds r).op i, none⟩) hb2).trans (hg2 _ hk)
            have H1' : Hid (c1 (eds r).op gl G i = G (gk (eds r).op i)) := by rw [H1.out]; exact if_pos hk
            clear hg2
            go_wp2
            go_roundw
            case rel =>
              refine ⟨i + 1, hlt, by go_num, by rw [HK.out]; go_num, rfl, HG2.out, (key.out _ H1'.out _).1, (key.out _ H1'.out _).2⟩
            case measure => simp [intOf]; omega
          · have H1' : Hid (c1 (eds r).op gl G i = false) := by rw [H1.out]; exact if_neg hk
            go_wp2
            go_roundw
            case rel =>
              refine ⟨i + 1, hlt, by go_num, by rw [HK.out]; go_num, rfl, HG2.out, (key0.out H1'.out _).1, (key0.out H1'.out _).2⟩
            case measure => simp [intOf]; omega
        · have HN : Hid (¬ (eds r).op i = 1) := by show ¬ (eds r).op i = 1; rw [HOP.out, h4]; decide
          have H1 : Hid (c1 (eds r).op gl G i = true) := if_pos (by rw [HOP.out, h4]; decide)
          have ta0 : ((d.op : Int) % 16 % 4 == 0) = false := by rw [beq_eq_false_iff_ne]; omega
          have tb0 : ((d.op : Int) % 4 == 0) = false := by rw [beq_eq_false_iff_ne]; omega
          have ta1 : ((d.op : Int) % 16 % 4 == 1) = false := by rw [beq_eq_false_iff_ne]; omega
          have tb1 : ((d.op : Int) % 4 == 1) = false := by rw [beq_eq_false_iff_ne]; omega
          have ta2 : ((d.op : Int) % 16 % 4 == 2) = true := by rw [beq_iff_eq]; omega
          have tb2 : ((d.op : Int) % 4 == 2) = true := by rw [beq_iff_eq]; omega
          clear h4
          go_wp2
          go_roundw
          case rel =>
            have hk : gk (eds r).op (i + 1) = gk (eds r).op i := if_neg HN.out
            exact ⟨i + 1, hlt, by go_num, by rw [hk], rfl, HG2.out, (key.out _ H1.out _).1, (key.out _ H1.out _).2⟩
          case measure => simp [intOf]; omega
        · have HN : Hid (¬ (eds r).op i = 1) := by show ¬ (eds r).op i = 1; rw [HOP.out, h4]; decide
          have H1 : Hid (c1 (eds r).op gl G i = false) := by
            show c1 (eds r).op gl G i = _
            unfold c1
            rw [if_neg (by rw [HOP.out, h4]; decide), if_neg (by rw [HOP.out, h4]; decide)]
          have ta0 : ((d.op : Int) % 16 % 4 == 0) = false := by rw [beq_eq_false_iff_ne]; omega
          have tb0 : ((d.op : Int) % 4 == 0) = false := by rw [beq_eq_false_iff_ne]; omega
          have ta1 : ((d.op : Int) % 16 % 4 == 1) = false := by rw [beq_eq_false_iff_ne]; omega
          have tb1 : ((d.op : Int) % 4 == 1) = false := by rw [beq_eq_false_iff_ne]; omega
          have ta2 : ((d.op : Int) % 16 % 4 == 2) = false := by rw [beq_eq_false_iff_ne]; omega
          have tb2 : ((d.op : Int) % 4 == 2) = false := by rw [beq_eq_false_iff_ne]; omega
          clear h4
          go_wp2
          go_roundw
          case rel =>
            have hk : gk (eds r).op (i + 1) = gk (eds r).op i := if_neg HN.out
            exact ⟨i + 1, hlt, by go_num, by rw [hk], rfl, HG2.out, (key0.out H1.out _).1, (key0.out H1.out _).2⟩
          case measure => simp [intOf]; omega
    · obtain rfl : i = r.length := by omega
      have HGOOD : Hid (Good (eds r)) := HG.out
      have HRUN : Hid (RunEnd c (eds r) (c2 (eds r) gl G (eds r).n) log err) := by
        rcases HS.out with ⟨⟨j, hj, e⟩, _⟩ | ⟨_, h2⟩
        · have := HGOOD.out j hj
          omega
        · exact h2
      go_wp2
      refine wp_tail_k (n := 21) (f := Ybaf.f3) rfl fun K hK => ?_
      go_wp2
      exact tail4 w0 r _ HR.out hn HOL.out W3 B03.out c sa HER.out k ends lv log base HX.out HL.out gl G err HGOOD.out HRUN.out cb (by rw [HCB.out]; exact Nat.le_refl _) wr HW.out (by show wr.heap[cb]? = some (Obj.cells (bools (pass1 (eds r).op gl G r.length)).toArray 4 (0, 0)); rw [← row6_all]; exact HCC.out) _ _ _ _ _ _ _ _ _ _ _ _ _ _ _ _ _ _ _ _ _ _ _ _ _ _ _ _ _ _ _ _ _ _ _ _ _ _ _ _ _ _ _ _ _ _ _ _ _ _ _ _ _ _ _ _ _ _ _ _ _ _ _ _ _ _ _ _ _ _ _ _ _ _ _ _ _ _ _ _ _ _ _ _ _ _ _ _ _ _ _ _ _ _ _ _ _ _ _ _ _ _ _ _ _ _ _ _ _ _ _ _ _ _ _ _ _ _ _ _ _ _ _ _ _ _ _ _ _ _ _ _ _ _ _ _ _ _ _ _ _ _ _ _ _ _ _ _ _ _ _ _ _ _ _ _ _ _ _ _ _ _ _ _ _ _ _ _ _ _ _ _ _ _ _ _ _ _ _ _ _ _ _ _ _ _ _ _ _ _ _ _ _ _ _ _ _ _ _ _ _ _ _ _ _ _ _ _ _ _ _ _ _ _ _ _ _ _ _ _ _ _ _ _ _ _ _ _ _ _ _ _ _ _ _ _ _ _ _ _ _ _ _ _ _ _ _ _ _ _ _ _ _ _ _ _ _ _ _ _ _ _ _ _ _ _ _ _ _ _ _ _ _ _ _ _ _ _ _ _ _ _ _ _ _ _ _ _ _ _ _ _ _ _ _ _ _ _ _ _ _ _ _ _ _ _ _ _ _ _ _ _ _ _ _ _ _ _ _ _ _

end Go.Proofs.YbulkcwciFmt
