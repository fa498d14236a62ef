import Derived.Test.YbulkcwemFmtBuiltPlain
import Derived.Room.AppendFits
import Derived.OwnWalk
import Derived.Deep.DeepCutAuto
import Derived.Deep.CutBlock
namespace Go.Proofs.YbulkcwemFmt
open Go.RowKit Go.Deep Go.Extern.Stop Go.Stop Go.Extern

theorem Ybaf.info5 : (Ybaf.prog.info? 5).map (fun i => (i.zero, i.size, i.bytes)) = some (some (.int .u8 0), 1, 1) := by kernel_rfl

/-- The blocks of the call's own so far: the tail's box at w.heap.size; the packet behind it. -/
def BRel (w : World) (T : Array Value) (wr : World) : Prop :=
  Below w.heap.size w wr ∧ wr.heap[w.heap.size]? = some (.cells T 46) ∧ w.heap.size + 1 < wr.heap.size
theorem BRel.grown {w wr wr' : World} {T : Array Value} (h : BRel w T wr) (g : wr.grownBy wr' (some (w.heap.size + 1))) : BRel w T wr' :=
  ⟨h.1.grown g (by have := h.2.2; omega) (fun k hk => by cases hk; omega), (g.block _ (by have := h.2.2; omega) (by simp)).trans h.2.1, Nat.lt_of_lt_of_le h.2.2 g.size⟩
theorem BRel.alloc {w wr : World} {T : Array Value} (h : BRel w T wr) (o : Obj) : BRel w T (wr.alloc o) :=
  ⟨h.1.alloc h.1.size o, (Below.heap_alloc _ _ _ (by have := h.2.2; omega)).trans h.2.1, by have := h.2.2; simp; omega⟩
theorem BRel.below {w wr wr' : World} {T : Array Value} (h : BRel w T wr) (k : Below wr.heap.size wr wr') : BRel w T wr' :=
  ⟨h.1.trans (k.mono h.1.size), (k.block _ (by have := h.2.2; omega)).trans h.2.1, Nat.lt_of_lt_of_le h.2.2 k.size⟩

theorem hbox (w : World) (o : Obj) : (w.alloc o).heap[w.heap.size]? = some o := by
  show (w.heap.push o)[w.heap.size]? = some o
  simp
def pick3 (s0 s1 s2 : ByteArray) (i : Nat) : ByteArray := if i = 0 then s0 else if i = 1 then s1 else s2

def LRel (w : World) (T : Array Value) (id n sb : Nat) (s0 s1 s2 : ByteArray) (out _s c : Value) (wr : World) : Prop :=
  ∃ (i m : Nat), i ≤ 3 ∧ c = .int .i64 i ∧ m = (idB id ++ parts (pick3 s0 s1 s2) i).length ∧ out = .slice (some ⟨w.heap.size + 1, 0, none⟩) m (782 + n) ∧
    wr.ownsRow w.heap.size 5 1 (.slice (some ⟨w.heap.size + 1, 0, none⟩) m (782 + n)) m (row (idB id ++ parts (pick3 s0 s1 s2) i)) ∧ BRel w T wr ∧
    w.heap.size + 1 < sb ∧ sb < wr.heap.size ∧ wr.heap[sb]? = some (.cells #[.string s0, .string s1, .string s2] 9)

def FullPost (w : World) (e : Ending) (w' : World) : Prop := e = .returned (.bool true) ∧ Below w.heap.size w w'

set_option maxHeartbeats 1000000 in
set_option maxRecDepth 100000 in
theorem built_walk (F : Interp) (id : Nat) (s0 s1 s2 : ByteArray) (T : Array Value) (TL : List Nat) (A : Option Addr) (n C : Nat) (cut : Nat) (X : Nat → Nat) (ea : Addr) (es : ByteArray) (w : World) (hF : F.answers w.tape) (hid : id < 4294967296)
    (hT : T.toList = row TL) (hTl : TL.length = 10) (hTb : ∀ x ∈ TL, x < 256) (hnil : A = none → n = 0 ∧ C = 0) (hB : Bytes w A n X) (hS : Sent w ea es) :
    Calls Ybaf.prog 6 #[.int .u32 id, .string s0, .string s1, .string s2, .agg T, .slice A n C, .int .u64 cut] w fun e w' => FullPost w e w' := by
  obtain ⟨i0, hi, hz0, hz1, hz2⟩ := info_parts Ybaf.info5
  have HF : Hid (F.answers w.tape) := hF
  have HT : Hid (T.toList = row TL ∧ TL.length = 10 ∧ ∀ x ∈ TL, x < 256) := ⟨hT, hTl, hTb⟩
  have HB : Hid (Bytes w A n X) := hB
  have HS : Hid (Sent w ea es) := hS
  have HN : Hid (A = none → n = 0 ∧ C = 0) := hnil
  clear hF hT hTl hTb hB hS hnil
  go_enter Ybaf.func6, Ybaf.ntmps6
  go_wp2_with (at_make; refine wpList_make_own _ rfl _ _ 22 rfl w.heap.size 5 i0 (.int .u8 0) 1 Ybaf.underlying22 hi hz0 hz1 _ _ _ (782 + n) rfl rfl (by omega) ?b2 ?b3 ?b4 ?_)
  case b2 => rw [hz2]; omega
  case b3 => unfold maxLen; omega
  case b4 => simp
  · go_ret
    exact ⟨rfl, (Below.refl _ _).alloc (Nat.le_refl _) _⟩
  intro w0 hown0 hgrow0
  go_wp2_with (at_builtin; refine wpList_append_fits _ rfl (.tmp 31) (.tmp 43) 22 rfl w.heap.size 5 i0 1 Ybaf.underlying22 hi hz1 (w.heap.size + 1) 0 (782 + n) _ rfl (hown0.alloc _) ⟨w0.heap.size, 0, none⟩ 4 4 (row (idB id)) rfl rfl ?c1 (row_one _) (by omega) ?_)
  case c1 =>
    intro j u hj
    obtain ⟨hlt, rfl⟩ := row_get hj
    have hlt' : j < 4 := hlt
    match j, hlt' with
    | 0, _ => simp [go_sem, idB]
    | 1, _ => simp [go_sem, idB]
    | 2, _ => simp [go_sem, idB]
    | 3, _ => simp [go_sem, idB]
  intro w1 hown1 hgrow1
  have HR : Hid (BRel w T w1) := by
    have h0 : (w.alloc (.cells T 46)).heap.size = w.heap.size + 1 := by simp
    have hz : w.heap.size + 1 < w0.heap.size := by
      rcases hown0.2 with ⟨e, _⟩ | ⟨g, cap, cur, e, _, hg, _⟩
      · cases e
      · cases e
        rcases Nat.lt_or_ge (w.heap.size + 1) w0.heap.size with h | h
        · exact h
        · rw [Array.getElem?_eq_none h] at hg; cases hg
    have hb : Below w.heap.size w (w.alloc (.cells T 46)) := (Below.refl _ _).alloc (Nat.le_refl _) _
    have r0 : BRel w T w0 := ⟨hb.grown hgrow0 (by omega) (fun k h => by cases h), (hgrow0.block _ (by omega) (by simp)).trans (hbox w _), hz⟩
    exact (r0.alloc _).grown hgrow1
  have HO : Hid (w1.ownsRow w.heap.size 5 1 (.slice (some ⟨w.heap.size + 1, 0, none⟩) 4 (782 + n)) 4 (row (idB id))) := hown1
  clear hown0 hgrow0 hown1 hgrow1
  have hn1 : n ≤ 1024 := by omega
  go_wp2
  go_loopw [15, 17, 50] (fun out s c wr => LRel w T id n w1.heap.size s0 s1 s2 out s c wr) (fun _ _ c _ => 3 - (intOf c).toNat)
  case atStart =>
    refine ⟨0, 4, by omega, rfl, rfl, rfl, ?_, HR.out.alloc _, HR.out.2.2, by simp, hbox _ _⟩
    simpa [parts] using HO.out.alloc _
  case round =>
    obtain ⟨i, m, hi3, rfl, hm, rfl, hown, hR, hsb1, hsb2, hsb⟩ := hrel
    by_cases hi' : i < 3
    · have hc : wr.cell? ⟨w1.heap.size, i, none⟩ = some (.string (pick3 s0 s1 s2 i)) := by
        match i, hi' with
        | 0, _ => simp [World.cell?, hsb, pick3]
        | 1, _ => simp [World.cell?, hsb, pick3]
        | 2, _ => simp [World.cell?, hsb, pick3]
      have hmb : m ≤ 4 + 256 * i := by
        have := parts_length_le (pick3 s0 s1 s2) i
        rw [hm, List.length_append]
        simp only [idB, List.length_cons, List.length_nil]
        omega
      have HO1 : Hid (wr.ownsRow w.heap.size 5 1 (.slice (some ⟨w.heap.size + 1, 0, none⟩) m (782 + n)) m (row (idB id ++ parts (pick3 s0 s1 s2) i))) := hown
      have HR1 : Hid (BRel w T wr) := hR
      have HS1 : Hid (wr.heap[w1.heap.size]? = some (.cells #[.string s0, .string s1, .string s2] 9)) := hsb
      have HM1 : Hid (m = (idB id ++ parts (pick3 s0 s1 s2) i).length) := hm
      clear hown hR hsb hm
      generalize hS : pick3 s0 s1 s2 i = S at *
      go_upto_if 56 with fail
      go_cut [17] (fun v17 wx => v17 = .string (clip S) ∧ wx = wr)
      case first =>
        by_cases hl : 255 < S.size
        · go_wp2
          go_meet
          exact ⟨by rw [clip, if_pos hl], rfl⟩
        · go_wp2
          go_meet
          exact ⟨by rw [clip, if_neg hl], rfl⟩
      case rest =>
        obtain ⟨rfl, hwc⟩ := hcut
        subst hwc
        have hl := clip_size S
        have hlen : Hid (clip (pick3 s0 s1 s2 i) = clip S) := by rw [hS]; exact rfl
        clear hS hc
        generalize clip S = S1 at *
        go_wp2_with (at_builtin; refine wpList_append_fits _ rfl (.tmp 59) (.tmp 63) 22 rfl w.heap.size 5 i0 1 Ybaf.underlying22 hi hz1 (w.heap.size + 1) m (782 + n) _ rfl (HO1.out.alloc _) ⟨wc.heap.size, 0, none⟩ 1 1 (row [S1.size]) rfl rfl ?c1 (row_one _) (by omega) ?_)
        case c1 =>
          intro j u hj
          obtain ⟨hlt, rfl⟩ := row_get hj
          have hlt' : j < 1 := hlt
          match j, hlt' with
          | 0, _ => simp [go_sem]
        intro w2 hown2 hgrow2
        have HO2 : Hid (w2.ownsRow w.heap.size 5 1 (.slice (some ⟨w.heap.size + 1, 0, none⟩) (m + 1) (782 + n)) (m + 1) (row (idB id ++ parts (pick3 s0 s1 s2) i) ++ row [S1.size])) := hown2
        have HR2 : Hid (BRel w T w2) := (HR1.out.alloc _).grown hgrow2
        have HS2 : Hid (w1.heap.size < w2.heap.size ∧ w2.heap[w1.heap.size]? = some (.cells #[.string s0, .string s1, .string s2] 9)) :=
          ⟨Nat.lt_of_lt_of_le (Nat.lt_of_lt_of_le hsb2 ((Below.refl wc.heap.size wc).alloc (Nat.le_refl _) _).size) hgrow2.size, (hgrow2.block _ (Nat.lt_of_lt_of_le hsb2 ((Below.refl wc.heap.size wc).alloc (Nat.le_refl _) _).size) (by simp; omega)).trans ((Below.heap_alloc _ _ _ hsb2).trans HS1.out)⟩
        clear hown2 hgrow2
        go_wp2_with (at_builtin; refine Lib.wpList_append_fits_string _ rfl (.tmp 65) (.tmp 66) 22 9 rfl w.heap.size 5 i0 Ybaf.underlying22 Ybaf.underlying9 hi hz1 (some ⟨w.heap.size + 1, 0, none⟩) (m + 1) (782 + n) _ rfl HO2.out S1 rfl (by omega) (by omega) ?_)
        intro w3 hown3 hgrow3
        go_wp2
        go_roundw
        case rel =>
          have hp : parts (pick3 s0 s1 s2) (i + 1) = parts (pick3 s0 s1 s2) i ++ (S1.size :: strB S1) := by
            show parts (pick3 s0 s1 s2) i ++ part (clip (pick3 s0 s1 s2 i)) = _
            rw [hlen.out]; rfl
          have hrow : row (idB id ++ parts (pick3 s0 s1 s2) i) ++ (row [S1.size] ++ Lib.strCells S1) = row (idB id ++ parts (pick3 s0 s1 s2) (i + 1)) := by
            rw [hp]
            simp [row, Lib.strCells, strB]
          have hz : m + 1 + S1.size = (idB id ++ parts (pick3 s0 s1 s2) (i + 1)).length := by
            rw [hp]
            have := HM1.out
            simp only [List.length_append, List.length_cons, strB_length] at this ⊢
            omega
          rw [hrow] at hown3
          refine ⟨i + 1, m + 1 + S1.size, by omega, by go_num, hz, rfl, hown3, HR2.out.grown hgrow3, by omega, Nat.lt_of_lt_of_le HS2.out.1 hgrow3.size, (hgrow3.block _ HS2.out.1 (by simp [Value.ownBlock]; omega)).trans HS2.out.2⟩
        case measure => simp [intOf]; omega
    · obtain rfl : i = 3 := by omega
      have hmb : m ≤ 4 + 256 * 3 := by
        have := parts_length_le (pick3 s0 s1 s2) 3
        rw [hm, List.length_append]
        simp only [idB, List.length_cons, List.length_nil]
        omega
      have hm7 : 7 ≤ m := by rw [hm, built_len]; omega
      have HO1 : Hid (wr.ownsRow w.heap.size 5 1 (.slice (some ⟨w.heap.size + 1, 0, none⟩) m (782 + n)) m (row (idB id ++ parts (pick3 s0 s1 s2) 3))) := hown
      have HR1 : Hid (BRel w T wr) := hR
      have HM1 : Hid (m = (idB id ++ parts (pick3 s0 s1 s2) 3).length) := hm
      clear hown hR hsb hm hsb1 hsb2
      go_wp2_with (at_builtin; refine wpList_append_fits _ rfl (.tmp 69) (.tmp 70) 22 rfl w.heap.size 5 i0 1 Ybaf.underlying22 hi hz1 (w.heap.size + 1) m (782 + n) _ rfl HO1.out ⟨w.heap.size, 0, none⟩ 10 10 (row TL) rfl ?c0 ?c1 (row_one _) (by omega) ?_)
      case c0 => rw [row_length, HT.out.2.1]
      case c1 =>
        intro j u hj
        obtain ⟨-, hbx, -⟩ := HR1.out
        have h2 : T[j]? = some u := by rw [← Array.getElem?_toList, HT.out.1]; exact hj
        by_cases e : j = 0
        · subst e; simp [World.cell?, hbx, Addr.add, h2]
        · simp [World.cell?, hbx, Addr.add, e, h2]
      intro w2 hown2 hgrow2
      have HO2 : Hid (w2.ownsRow w.heap.size 5 1 (.slice (some ⟨w.heap.size + 1, 0, none⟩) (m + 10) (782 + n)) (m + 10) (row (idB id ++ parts (pick3 s0 s1 s2) 3) ++ row TL)) := hown2
      have HR2 : Hid (BRel w T w2) := HR1.out.grown hgrow2
      clear hown2 hgrow2
      go_wp2_with (at_builtin; refine wpList_append_fits_any _ rfl (.tmp 74) (.tmp 75) 22 rfl w.heap.size 5 i0 1 Ybaf.underlying22 hi hz1 (w.heap.size + 1) (m + 10) (782 + n) _ rfl HO2.out A n C (row ((List.range n).map X)) rfl ?c0 HN.out ?c1 (row_one _) (by omega) ?_)
      case c0 => simp [row_length]
      case c1 =>
        intro ad had j u hj
        obtain ⟨hlt, rfl⟩ := row_get hj
        have hlt' : j < n := by simpa using hlt
        obtain ⟨b, o, e, hb, hc⟩ := HB.out.2 (by omega)
        rw [had] at e
        cases e
        have h1 := (HR2.out.1.cell (p := ⟨b, o + j, none⟩) hb).trans (hc j hlt')
        have h2 : ((List.range n).map X).getD j 0 = X j := by
          rw [List.getD_eq_getElem?_getD, List.getElem?_map, List.getElem?_range hlt']; rfl
        rw [h2]
        by_cases e : j = 0
        · subst e; simpa [Addr.add] using h1
        · simpa [Addr.add, e] using h1
      intro w3 hown3 hgrow3
      have HP : Hid (Bytes w3 (some ⟨w.heap.size + 1, 0, none⟩) (m + 10 + n) (builtP id (pick3 s0 s1 s2) TL ((List.range n).map X))) := by
        have e : row (idB id ++ parts (pick3 s0 s1 s2) 3) ++ (row TL ++ row ((List.range n).map X)) = row (idB id ++ parts (pick3 s0 s1 s2) 3 ++ TL ++ (List.range n).map X) := by simp only [row_append, List.append_assoc]
        rw [e] at hown3
        exact bytes_of_own hown3 (built_lt id hid _ TL _ HT.out.2.2 (fun x hx => by
          obtain ⟨j, hj, rfl⟩ := List.mem_map.1 hx
          exact HB.out.1 j (List.mem_range.1 hj)))
      have HR3 : Hid (BRel w T w3) := HR2.out.grown hgrow3
      clear hown3 hgrow3
      have HW : Hid (∀ k, whole (builtP id (pick3 s0 s1 s2) TL ((List.range n).map X)) k = decide (m + 10 ≤ k)) := fun k => by rw [HM1.out]; exact built_whole id _ TL _ k
      have HI : Hid (le32 (builtP id (pick3 s0 s1 s2) TL ((List.range n).map X)) = (id : Int)) := built_id id hid _ TL _
      clear HO1 HO2 HM1 HR1 HR2 HO HR HT HN HB
      generalize builtP id (pick3 s0 s1 s2) TL ((List.range n).map X) = P at *
      have HZ : Hid (Below w.heap.size w w3) := HR3.out.1
      clear HR3
      go_wp2_with fail
      refine (parse_any F (some ⟨w.heap.size + 1, 0, none⟩) (m + 10 + n) (782 + n) P ea es w3 (HZ.out.tape ▸ HF.out) (by omega) (by omega) HP.out (HS.out.below HZ.out)).mono ?_
      rintro e w4 ⟨hb4, h4⟩
      have HZ4 : Hid (Below w.heap.size w w4) := HZ.out.trans (hb4.mono HZ.out.size)
      have HP4 : Hid (Bytes w4 (some ⟨w.heap.size + 1, 0, none⟩) (m + 10 + n) P) := HP.out.below hb4
      clear hb4 HP HZ
      rcases h4 with ⟨_, rfl⟩ | ⟨hw, _⟩
      · rw [HI.out]
        go_upto_region 20 with fail
        obtain ⟨k, hk, hk2⟩ : ∃ k : Nat, ((cut : Int) % ((m : Int) + 10)) = k ∧ k < m + 10 := ⟨cut % (m + 10), by simp [Int.natCast_emod], Nat.mod_lt _ (by omega)⟩
        have hwk : wrap64 ((cut : Int) % ((m : Int) + 10)) = k := by
          rw [hk]
          unfold wrap64
          omega
        rw [hwk, hk]
        clear hwk hk
        go_wp2_with fail
        refine (parse_any F (some ⟨w.heap.size + 1, 0, none⟩) k (782 + n) P ea es w4 (HZ4.out.tape ▸ HF.out) (by omega) (by omega) (HP4.out.take (by omega)) (HS.out.below HZ4.out)).mono ?_
        rintro e w5 ⟨hb5, h5⟩
        have HZ5 : Hid (Below w.heap.size w w5) := HZ4.out.trans (hb5.mono HZ4.out.size)
        clear hb5
        rcases h5 with ⟨hw, _⟩ | ⟨_, g, rfl, hg⟩
        · rw [HW.out, decide_eq_true_eq] at hw
          omega
        · have k0 := (HS.out.below HZ5.out).1
          have HG : Hid (w5.cell? ⟨g, 1, none⟩ = some (.iface 94 (.pointer (some ea)))) := hg
          clear hg
          go_wp2_with fail
          refine (is_wrap_same g ea w5 HG.out).mono ?_
          rintro e w6 ⟨rfl, hw6⟩
          subst hw6
          go_wp2
          go_ret
          exact ⟨rfl, HZ5.out⟩
      · rw [HW.out, decide_eq_false_iff_not] at hw
        omega
end Go.Proofs.YbulkcwemFmt
