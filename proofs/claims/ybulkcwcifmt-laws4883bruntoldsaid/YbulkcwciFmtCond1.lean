import Derived.Test.YbulkcwciFmtConds
namespace Go.Proofs.YbulkcwciFmt
attribute [local go_sem ↓] Go.wp_at_zero Go.wp_at_succ
open Go.RowKit Go.Deep Go.Extern.Stop Go.Stop Go.Extern

def Good (E : Eds) : Prop := ∀ j, j < E.n → E.op j ≤ 3
def Bad (E : Eds) : Prop := ∃ j, j < E.n ∧ E.op j = 7
def c2 (E : Eds) (gl : Nat) (G : Nat → Bool) : Nat → List Bool
  | 0 => pass1 E.op gl G E.n
  | i + 1 => if E.op i = 3 then (c2 E gl G i).set i (((E.oth i).map fun o => (c2 E gl G i).getD o false).all fun b => !b) else c2 E gl G i
theorem c2_length (E : Eds) (gl : Nat) (G : Nat → Bool) : ∀ i, (c2 E gl G i).length = E.n
  | 0 => pass1_length _ _ _ _
  | i + 1 => by
    unfold c2
    split
    · rw [List.length_set]; exact c2_length E gl G i
    · exact c2_length E gl G i
def CondEnd (c : Cfg) (E : Eds) (gl : Nat) (G : Nat → Bool) (ends : Nat) (log : List Int) (e : Ending) (w' : World) : Prop :=
  (Bad E ∧ ∃ k' cv' cs' ov' os' a, e = .returned (.tuple #[.slice none 0 0, .iface 62 (.pointer (some a))]) ∧ St c k' ends log cv' cs' ov' os' w') ∨
  (Good E ∧ ∃ cv' ov' os', e = .returned (.tuple #[cv', .nilIface]) ∧ St c (gk E.op E.n) ends log cv' (c2 E gl G E.n) ov' os' w')

def Rel1 (c : Cfg) (E : Eds) (gl : Nat) (G : Nat → Bool) (ends : Nat) (log : List Int) (ov : Value) (v22 : Value) (wr : World) : Prop :=
  ∃ i cv, i ≤ E.n ∧ v22 = .int .i64 i ∧ (∀ j, j < i → E.op j ≤ 3) ∧ (i = 0 → cv = .slice none 0 0) ∧ St c (gk E.op i) ends log cv (pass1 E.op gl G i) ov [] wr

def Rel2 (c : Cfg) (E : Eds) (gl : Nat) (G : Nat → Bool) (ends : Nat) (log : List Int) (cv : Value) (v77 : Value) (wr : World) : Prop :=
  ∃ i ov os, i ≤ E.n ∧ v77 = .int .i64 i ∧ St c (gk E.op E.n) ends log cv (c2 E gl G i) ov os wr
def othB (cs : List Bool) (l : List Nat) : List Bool := l.map fun o => cs.getD o false
def Rel3 (c : Cfg) (k ends : Nat) (log : List Int) (cv : Value) (cs : List Bool) (l : List Nat) (v100 : Value) (wr : World) : Prop :=
  ∃ j ov, j ≤ l.length ∧ v100 = .int .i64 j ∧ St c k ends log cv cs ov (othB cs (l.take j)) wr

set_option maxHeartbeats 4000000 in
set_option maxRecDepth 100000 in
theorem cond_any {c : Cfg} {ends : Nat} {log : List Int} {w : World} (F : Interp) (E : Eds) (ea : Option Addr) (ec : Nat) (GA : Option Addr) (gl gc : Nat) (G : Nat → Bool) (h : St c 0 ends log (.slice none 0 0) [] (.slice none 0 0) [] w) (hF : F.answers c.w0.tape)
    (hE : EdgesAt c E ea) (hG : GuardsAt c GA gl gc G) (hop : ∀ j, j < E.n → E.op j ≤ 3 ∨ E.op j = 7) :
    Calls Ybaf.prog 18 #[.pointer (some ⟨c.wb, 0, none⟩), .slice ea E.n ec] w fun e w' => CondEnd c E gl G ends log e w' := by
  obtain ⟨i0, hi, hz0, hz1, hz2⟩ := info_parts Ybaf.info4
  have HE : Hid (EdgesAt c E ea) := hE
  have HG : Hid (GuardsAt c GA gl gc G) := hG
  have HF : Hid (F.answers c.w0.tape) := hF
  have HP : Hid (∀ j, j < E.n → E.op j ≤ 3 ∨ E.op j = 7) := hop
  have hn := hE.1
  have q2 : w.cell? ⟨c.wb, 2, none⟩ = some (.slice none 0 0) := by simpa using cell_of h.wbk 2
  have HS : Hid (St c 0 ends log (.slice none 0 0) [] (.slice none 0 0) [] w) := h
  have m1 := meth_guard
  have m2 := meth_always
  have m3 := meth_none
  clear hE hG hF hop h
  go_enter Ybaf.func18, Ybaf.ntmps18
  go_wp2
  go_loopw [22] (fun v22 wr => Rel1 c E gl G ends log (.slice none 0 0) v22 wr) (fun v22 _ => E.n - (intOf v22).toNat)
  case atStart => exact ⟨0, .slice none 0 0, Nat.zero_le _, rfl, fun j hj => absurd hj (by omega), fun _ => rfl, HS.out⟩
  case round =>
    obtain ⟨i, cv, hin, rfl, hx, hcv0, hst⟩ := hrel
    have HC0 : Hid (i = 0 → cv = .slice none 0 0) := hcv0
    clear hcv0
    have HX : Hid (∀ j, j < i → E.op j ≤ 3) := hx
    have HT : Hid (St c (gk E.op i) ends log cv (pass1 E.op gl G i) (.slice none 0 0) [] wr) := hst
    have r0 : wr.cell? ⟨c.wb, 0, none⟩ = some (.iface 46 (.pointer (some ⟨c.xb, 0, none⟩))) := by simpa using cell_of hst.wbk 0
    clear hx hst q2
    by_cases hlt : i < E.n
    · obtain ⟨eb, he, hall⟩ := HE.out.2 (by omega)
      obtain ⟨ed, p1, p2, -, -, -⟩ := hall i hlt
      subst he
      have y0 := HT.out.fr.cell ed.1 ed.2.1 ed.2.2.1 ed.2.2.2.1
      have y1 := HT.out.fr.cell ed.1 ed.2.1 ed.2.2.1 p1
      have y2 := HT.out.fr.cell ed.1 ed.2.1 ed.2.2.1 p2
      clear hall ed p1 p2
      rcases (show E.op i = 0 ∨ E.op i = 1 ∨ E.op i = 2 ∨ E.op i = 3 ∨ E.op i = 7 by have := HP.out i hlt; omega) with ho | ho | ho | ho | ho
      · rw [ho] at y0
        go_wp2_with fail
        refine (always_any c.xb wr).mono ?_
        rintro e w1 ⟨rfl, hw1⟩
        subst hw1
        have HT1 := HT
        have hk1 : Hid (gk E.op (i + 1) = gk E.op i) := if_neg (by omega)
        have hb1 : Hid (c1 E.op gl G i = true) := if_pos (by omega)
        obtain ⟨lv, hs⟩ := HT1.out
        have s2 : w1.cell? ⟨c.wb, 2, none⟩ = some cv := by simpa using cell_of hs.2.2.2.1 2
        have szW := hs.1.2.2.2.1
        have HSL : Hid (StL c (gk E.op i) ends log lv cv (pass1 E.op gl G i) (.slice none 0 0) [] w1) := hs
        clear hs
        go_wp2_with (at_builtin; refine wpList_append_lies _ rfl _ _ 24 rfl c.w0.heap.size 4 i0 (.bool false) 1 1 Ybaf.underlying24 hi hz0 hz1 hz2 rfl (by omega) cv (pass1 E.op gl G i).length (bools (pass1 E.op gl G i)) rfl ((HSL.out.2.2.2.2.2.1).alloc _) ⟨w1.heap.size, 0, none⟩ 1 1 (bools [true]) rfl rfl (newsB (w := w1) (true) rfl) (bools_one _) (by omega) (by rw [pass1_length]; unfold maxLen; omega) (by rw [pass1_length]; omega) (by simp; omega) _ rfl ?_)
        intro g cap w3 hown hgrow hat hlt3
        have hwb := (HSL.out.alloc _).grown_wb hgrow
        have s3 : w3.cell? ⟨c.wb, 2, none⟩ = some cv := by simpa using cell_of hwb 2
        have t3 := free_of hwb 2
        have HN : Hid (StL c (gk E.op i) ends log lv (.slice (some ⟨g, 0, none⟩) ((pass1 E.op gl G i).length + 1) cap) (pass1 E.op gl G i ++ [true]) (.slice none 0 0) [] (w3.setCell ⟨c.wb, 2, none⟩ (.slice (some ⟨g, 0, none⟩) ((pass1 E.op gl G i).length + 1) cap))) :=
          (HSL.out.alloc _).setConds (news := [true]) hgrow hown (fun j hj => by
            have e : g = j := by simpa [Value.ownBlock] using hj
            subst e
            rcases hat with h' | h'
            · exact .inl h'
            · right; rw [h']; simp)
        clear hown hgrow hat hlt3 hwb s2
        go_wp2
        go_roundw
        case rel => exact ⟨i + 1, _, hlt, by go_num, fun j hj => by
          by_cases e : j = i
          · subst e; have := ho; omega
          · exact HX.out j (by omega), fun h => absurd h (by omega), lv, by rw [pass1_succ, hk1.out, hb1.out]; exact HN.out⟩
        case measure => simp [intOf]; omega
      · rw [ho] at y0
        have GC : gk E.op i < gl → ∃ b o, GA = some ⟨b, o, none⟩ ∧ wr.cell? ⟨b, o + gk E.op i, none⟩ = some (.bool (G (gk E.op i))) := fun hgl => by
          obtain ⟨b, o, e, hb, hbx, hbw, hc⟩ := HG.out.2.2 (by omega)
          exact ⟨b, o, e, HT.out.fr.cell hb hbx hbw (hc _ hgl)⟩
        have hgk := gk_le E.op i
        go_wp2_with fail
        refine (guard_any (.pointer (some ⟨eb, i * 8, none⟩)) GA gl gc G HT.out HG.out.1 (by omega) GC).mono ?_
        rintro e w1 ⟨rfl, hs1⟩
        have HT1 : Hid (St c (gk E.op i + 1) ends log cv (pass1 E.op gl G i) (.slice none 0 0) [] w1) := hs1
        have hgv : Hid (gv gl G (gk E.op i) = if gk E.op i < gl then G (gk E.op i) else false) := rfl
        rw [← hgv.out]
        clear hs1 GC hgk
        have hk1 : Hid (gk E.op (i + 1) = gk E.op i + 1) := if_pos ho
        have hb1 : Hid (c1 E.op gl G i = gv gl G (gk E.op i)) := (show c1 E.op gl G i = gv gl G (gk E.op i) by rw [c1, if_neg (by omega), if_pos ho])
        obtain ⟨lv, hs⟩ := HT1.out
        have s2 : w1.cell? ⟨c.wb, 2, none⟩ = some cv := by simpa using cell_of hs.2.2.2.1 2
        have szW := hs.1.2.2.2.1
        have HSL : Hid (StL c (gk E.op i + 1) ends log lv cv (pass1 E.op gl G i) (.slice none 0 0) [] w1) := hs
        clear hs
        go_wp2_with (at_builtin; refine wpList_append_lies _ rfl _ _ 24 rfl c.w0.heap.size 4 i0 (.bool false) 1 1 Ybaf.underlying24 hi hz0 hz1 hz2 rfl (by omega) cv (pass1 E.op gl G i).length (bools (pass1 E.op gl G i)) rfl ((HSL.out.2.2.2.2.2.1).alloc _) ⟨w1.heap.size, 0, none⟩ 1 1 (bools [gv gl G (gk E.op i)]) rfl rfl (newsB (w := w1) (gv gl G (gk E.op i)) rfl) (bools_one _) (by omega) (by rw [pass1_length]; unfold maxLen; omega) (by rw [pass1_length]; omega) (by simp; omega) _ rfl ?_)
        intro g cap w3 hown hgrow hat hlt3
        have hwb := (HSL.out.alloc _).grown_wb hgrow
        have s3 : w3.cell? ⟨c.wb, 2, none⟩ = some cv := by simpa using cell_of hwb 2
        have t3 := free_of hwb 2
        have HN : Hid (StL c (gk E.op i + 1) ends log lv (.slice (some ⟨g, 0, none⟩) ((pass1 E.op gl G i).length + 1) cap) (pass1 E.op gl G i ++ [gv gl G (gk E.op i)]) (.slice none 0 0) [] (w3.setCell ⟨c.wb, 2, none⟩ (.slice (some ⟨g, 0, none⟩) ((pass1 E.op gl G i).length + 1) cap))) :=
          (HSL.out.alloc _).setConds (news := [gv gl G (gk E.op i)]) hgrow hown (fun j hj => by
            have e : g = j := by simpa [Value.ownBlock] using hj
            subst e
            rcases hat with h' | h'
            · exact .inl h'
            · right; rw [h']; simp)
        clear hown hgrow hat hlt3 hwb s2
        go_wp2
        go_roundw
        case rel => exact ⟨i + 1, _, hlt, by go_num, fun j hj => by
          by_cases e : j = i
          · subst e; have := ho; omega
          · exact HX.out j (by omega), fun h => absurd h (by omega), lv, by rw [pass1_succ, hk1.out, hb1.out]; exact HN.out⟩
        case measure => simp [intOf]; omega
      · rw [ho] at y0
        go_wp2_with fail
        refine (always_any c.xb wr).mono ?_
        rintro e w1 ⟨rfl, hw1⟩
        subst hw1
        have HT1 := HT
        have hk1 : Hid (gk E.op (i + 1) = gk E.op i) := if_neg (by omega)
        have hb1 : Hid (c1 E.op gl G i = true) := if_pos (by omega)
        obtain ⟨lv, hs⟩ := HT1.out
        have s2 : w1.cell? ⟨c.wb, 2, none⟩ = some cv := by simpa using cell_of hs.2.2.2.1 2
        have szW := hs.1.2.2.2.1
        have HSL : Hid (StL c (gk E.op i) ends log lv cv (pass1 E.op gl G i) (.slice none 0 0) [] w1) := hs
        clear hs
        go_wp2_with (at_builtin; refine wpList_append_lies _ rfl _ _ 24 rfl c.w0.heap.size 4 i0 (.bool false) 1 1 Ybaf.underlying24 hi hz0 hz1 hz2 rfl (by omega) cv (pass1 E.op gl G i).length (bools (pass1 E.op gl G i)) rfl ((HSL.out.2.2.2.2.2.1).alloc _) ⟨w1.heap.size, 0, none⟩ 1 1 (bools [true]) rfl rfl (newsB (w := w1) (true) rfl) (bools_one _) (by omega) (by rw [pass1_length]; unfold maxLen; omega) (by rw [pass1_length]; omega) (by simp; omega) _ rfl ?_)
        intro g cap w3 hown hgrow hat hlt3
        have hwb := (HSL.out.alloc _).grown_wb hgrow
        have s3 : w3.cell? ⟨c.wb, 2, none⟩ = some cv := by simpa using cell_of hwb 2
        have t3 := free_of hwb 2
        have HN : Hid (StL c (gk E.op i) ends log lv (.slice (some ⟨g, 0, none⟩) ((pass1 E.op gl G i).length + 1) cap) (pass1 E.op gl G i ++ [true]) (.slice none 0 0) [] (w3.setCell ⟨c.wb, 2, none⟩ (.slice (some ⟨g, 0, none⟩) ((pass1 E.op gl G i).length + 1) cap))) :=
          (HSL.out.alloc _).setConds (news := [true]) hgrow hown (fun j hj => by
            have e : g = j := by simpa [Value.ownBlock] using hj
            subst e
            rcases hat with h' | h'
            · exact .inl h'
            · right; rw [h']; simp)
        clear hown hgrow hat hlt3 hwb s2
        go_wp2
        go_roundw
        case rel => exact ⟨i + 1, _, hlt, by go_num, fun j hj => by
          by_cases e : j = i
          · subst e; have := ho; omega
          · exact HX.out j (by omega), fun h => absurd h (by omega), lv, by rw [pass1_succ, hk1.out, hb1.out]; exact HN.out⟩
        case measure => simp [intOf]; omega
      · rw [ho] at y0
        have HT1 := HT
        have hk1 : Hid (gk E.op (i + 1) = gk E.op i) := if_neg (by omega)
        have hb1 : Hid (c1 E.op gl G i = false) := (show c1 E.op gl G i = false by rw [c1, if_neg (by omega), if_neg (by omega)])
        obtain ⟨lv, hs⟩ := HT1.out
        have s2 : wr.cell? ⟨c.wb, 2, none⟩ = some cv := by simpa using cell_of hs.2.2.2.1 2
        have szW := hs.1.2.2.2.1
        have HSL : Hid (StL c (gk E.op i) ends log lv cv (pass1 E.op gl G i) (.slice none 0 0) [] wr) := hs
        clear hs
        go_wp2_with (at_builtin; refine wpList_append_lies _ rfl _ _ 24 rfl c.w0.heap.size 4 i0 (.bool false) 1 1 Ybaf.underlying24 hi hz0 hz1 hz2 rfl (by omega) cv (pass1 E.op gl G i).length (bools (pass1 E.op gl G i)) rfl ((HSL.out.2.2.2.2.2.1).alloc _) ⟨wr.heap.size, 0, none⟩ 1 1 (bools [false]) rfl rfl (newsB (w := wr) (false) rfl) (bools_one _) (by omega) (by rw [pass1_length]; unfold maxLen; omega) (by rw [pass1_length]; omega) (by simp; omega) _ rfl ?_)
        intro g cap w3 hown hgrow hat hlt3
        have hwb := (HSL.out.alloc _).grown_wb hgrow
        have s3 : w3.cell? ⟨c.wb, 2, none⟩ = some cv := by simpa using cell_of hwb 2
        have t3 := free_of hwb 2
        have HN : Hid (StL c (gk E.op i) ends log lv (.slice (some ⟨g, 0, none⟩) ((pass1 E.op gl G i).length + 1) cap) (pass1 E.op gl G i ++ [false]) (.slice none 0 0) [] (w3.setCell ⟨c.wb, 2, none⟩ (.slice (some ⟨g, 0, none⟩) ((pass1 E.op gl G i).length + 1) cap))) :=
          (HSL.out.alloc _).setConds (news := [false]) hgrow hown (fun j hj => by
            have e : g = j := by simpa [Value.ownBlock] using hj
            subst e
            rcases hat with h' | h'
            · exact .inl h'
            · right; rw [h']; simp)
        clear hown hgrow hat hlt3 hwb s2
        go_wp2
        go_roundw
        case rel => exact ⟨i + 1, _, hlt, by go_num, fun j hj => by
          by_cases e : j = i
          · subst e; have := ho; omega
          · exact HX.out j (by omega), fun h => absurd h (by omega), lv, by rw [pass1_succ, hk1.out, hb1.out]; exact HN.out⟩
        case measure => simp [intOf]; omega
      · rw [ho] at y0
        go_wp2_with fail
        refine (unread_any F eb (i * 8) 0 0 wr (HT.out.fr.2.1 ▸ HF.out) y0 y1 y2).mono ?_
        rintro e w1 ⟨⟨a, rfl⟩, hb1⟩
        have H1 : Hid (St c (gk E.op i) ends log cv (pass1 E.op gl G i) (.slice none 0 0) [] w1) := HT.out.below hb1
        clear hb1
        go_wp2
        go_ret2
        exact .inl ⟨⟨i, hlt, ho⟩, _, _, _, _, _, _, rfl, H1.out⟩
    · obtain rfl : i = E.n := by omega
      have HGd : Hid (Good E) := HX.out
      by_cases hn0 : E.n = 0
      · have hc0 := HC0.out hn0
        subst hc0
        have r2 : wr.cell? ⟨c.wb, 2, none⟩ = some (.slice none 0 0) := by simpa using cell_of HT.out.wbk 2
        have hz : ((E.n : Nat) : Int) = 0 := by omega
        go_wp2
        go_loopw [77] (fun v77 wr => Rel2 c E gl G ends log (.slice none 0 0) v77 wr) (fun v77 _ => E.n - (intOf v77).toNat)
        case atStart => exact ⟨0, _, _, Nat.zero_le _, rfl, HT.out⟩
        case round =>
          obtain ⟨i2, ov, os, hi2, rfl, hst⟩ := hrel
          have H2 : Hid (St c (gk E.op E.n) ends log (.slice none 0 0) (c2 E gl G i2) ov os wr) := hst
          clear hst
          obtain rfl : i2 = 0 := by omega
          have e0 : c2 E gl G E.n = c2 E gl G 0 := by rw [hn0]
          have H3 : St c (gk E.op E.n) ends log (.slice none 0 0) (c2 E gl G E.n) ov os wr := by rw [e0]; exact H2.out
          have H4 : Hid (St c (gk E.op E.n) ends log (.slice none 0 0) (c2 E gl G E.n) ov os wr) := H3
          clear H3 e0
          go_wp2
          go_ret2
          exact .inr ⟨HGd.out, _, ov, os, rfl, H4.out⟩
      · obtain ⟨lv0, hs0⟩ := HT.out
        obtain ⟨g, cap, hcv, hgb, hgl⟩ := (hs0.2.2.2.2.2.1).form (by rw [pass1_length]; omega)
        rw [pass1_length] at hcv
        subst hcv
        have hcc := own_cap hs0.2.2.2.2.2.1
        rw [pass1_length] at hcc
        obtain ⟨hcap, hcm⟩ := hcc
        have r2 : wr.cell? ⟨c.wb, 2, none⟩ = some (.slice (some ⟨g, 0, none⟩) E.n cap) := by simpa using cell_of HT.out.wbk 2
        have hgw : g ≠ c.wb := by have := hs0.2.1.2.1; omega
        clear hs0 hgl
        go_wp2
        go_loopw [77] (fun v77 wr => Rel2 c E gl G ends log (.slice (some ⟨g, 0, none⟩) E.n cap) v77 wr) (fun v77 _ => E.n - (intOf v77).toNat)
        case atStart => exact ⟨0, _, _, Nat.zero_le _, rfl, HT.out⟩
        case round =>
          obtain ⟨i, ov, os, hi2, rfl, hst⟩ := hrel
          have H2 : Hid (St c (gk E.op E.n) ends log (.slice (some ⟨g, 0, none⟩) E.n cap) (c2 E gl G i) ov os wr) := hst
          have hst' := hst
          obtain ⟨lv, hsl⟩ := hst
          have r0 : wr.cell? ⟨c.wb, 0, none⟩ = some (.iface 46 (.pointer (some ⟨c.xb, 0, none⟩))) := by simpa using cell_of hst'.wbk 0
          have r3 : wr.cell? ⟨c.wb, 3, none⟩ = some ov := by simpa using cell_of hst'.wbk 3
          have t3 := free_of hst'.wbk 3
          have HL : Hid (StL c (gk E.op E.n) ends log lv (.slice (some ⟨g, 0, none⟩) E.n cap) (c2 E gl G i) ov os wr) := hsl
          clear hst' hsl
          by_cases hlt : i < E.n
          · obtain ⟨eb, he, hall⟩ := HE.out.2 (by omega)
            obtain ⟨ed, -, -, hol, hob, ob, p5, q1, q2, q3, q4⟩ := hall i hlt
            subst he
            have y0 := H2.out.fr.cell ed.1 ed.2.1 ed.2.2.1 ed.2.2.2.1
            have y5 := H2.out.fr.cell ed.1 ed.2.1 ed.2.2.1 p5
            have HE5 : Hid (eb < c.w0.heap.size ∧ eb ≠ c.xb ∧ eb ≠ c.wb ∧ c.w0.cell? ⟨eb, i * 8 + 5, none⟩ = some (.slice (some ⟨ob, 0, none⟩) (E.oth i).length (E.oth i).length)) := ⟨ed.1, ed.2.1, ed.2.2.1, p5⟩
            have HQ : Hid (ob < c.w0.heap.size ∧ ob ≠ c.xb ∧ ob ≠ c.wb ∧ ∀ m, m < (E.oth i).length → c.w0.cell? ⟨ob, m, none⟩ = some (.int .i64 ((E.oth i).getD m 0 : Nat))) := ⟨q1, q2, q3, q4⟩
            have HOB : Hid (∀ o ∈ E.oth i, o < E.n) := hob
            clear hall ed p5 q1 q2 q3 q4 hob
            by_cases ho : E.op i = 3
            · have hc2 : Hid (c2 E gl G (i + 1) = (c2 E gl G i).set i ((othB (c2 E gl G i) (E.oth i)).all fun b => !b)) := if_pos ho
              rw [ho] at y0
              have hap := HL.out.2.2.2.2.2.2.2
              have HR : Hid (∃ ov', (∀ A n' cap', ov = .slice A n' cap' → ov' = .slice A 0 cap') ∧ StL c (gk E.op E.n) ends log lv (.slice (some ⟨g, 0, none⟩) E.n cap) (c2 E gl G i) ov' [] (wr.setCell ⟨c.wb, 3, none⟩ ov')) := by
                rcases (HL.out.2.2.2.2.2.2.1).2 with ⟨rfl, h0⟩ | ⟨g2, cap2, cur, rfl, _⟩
                · exact ⟨.slice none 0 0, fun A n' cap' e => by cases e; rfl, HL.out.reov (os' := []) (World.ownsRow_nil _ _ _ _) (fun i _ e => by cases e)⟩
                · exact ⟨.slice (some ⟨g2, 0, none⟩) 0 cap2, fun A n' cap' e => by cases e; rfl, HL.out.reov (os' := []) (own_zero HL.out.2.2.2.2.2.2.1) (fun i hi e => hap i hi (by simpa [Value.ownBlock] using e))⟩
              obtain ⟨A2, cap2, hov, -⟩ := own_elems HL.out.2.2.2.2.2.2.1
              have hcap2 : Hid (A2 = none → os.length = 0 ∧ cap2 = 0) := fun hA => by
                subst hA
                rcases (HL.out.2.2.2.2.2.2.1).2 with ⟨e, h0⟩ | ⟨g2, cap2, cur, e, _⟩
                · rw [hov] at e
                  simp only [Value.slice.injEq] at e
                  exact ⟨h0, e.2.2⟩
                · rw [hov] at e; simp at e
              subst hov
              obtain ⟨ov', hov', hs'⟩ := HR.out
              obtain rfl := hov' _ _ _ rfl
              have HL2 : Hid (StL c (gk E.op E.n) ends log lv (.slice (some ⟨g, 0, none⟩) E.n cap) (c2 E gl G i) (.slice A2 0 cap2) [] (wr.setCell ⟨c.wb, 3, none⟩ (.slice A2 0 cap2))) := hs'
              have z5 := HL2.out.1.cell HE5.out.1 HE5.out.2.1 HE5.out.2.2.1 HE5.out.2.2.2
              clear hs' hov' HR hap
              go_upto_region 25 with fail
              go_cut [12] (fun v12 wx => v12 = .int .i64 i ∧ wx = wr.setCell ⟨c.wb, 3, none⟩ (.slice A2 0 cap2))
              case first =>
                cases A2 with
                | none =>
                  obtain ⟨e1, rfl⟩ := hcap2.out rfl
                  rw [e1] at r3
                  go_wp2
                  go_meet
                  exact ⟨rfl, rfl⟩
                | some a2 =>
                  go_wp2
                  go_meet
                  exact ⟨rfl, rfl⟩
              case rest =>
                obtain ⟨rfl, hwc⟩ := hcut
                subst hwc
                go_wp2
                go_loopw [100] (fun v100 wr => Rel3 c (gk E.op E.n) ends log (.slice (some ⟨g, 0, none⟩) E.n cap) (c2 E gl G i) (E.oth i) v100 wr) (fun v100 _ => (E.oth i).length - (intOf v100).toNat)
                case atStart => exact ⟨0, _, Nat.zero_le _, rfl, lv, HL2.out⟩
                case round =>
                  obtain ⟨j, ov3, hj, rfl, lv3, hs3⟩ := hrel
                  have HL3 : Hid (StL c (gk E.op E.n) ends log lv3 (.slice (some ⟨g, 0, none⟩) E.n cap) (c2 E gl G i) ov3 (othB (c2 E gl G i) ((E.oth i).take j)) wr) := hs3
                  have v0 : wr.cell? ⟨c.wb, 0, none⟩ = some (.iface 46 (.pointer (some ⟨c.xb, 0, none⟩))) := by simpa using cell_of hs3.2.2.2.1 0
                  have v3 : wr.cell? ⟨c.wb, 3, none⟩ = some ov3 := by simpa using cell_of hs3.2.2.2.1 3
                  have f3 := free_of hs3.2.2.2.1 3
                  have sz3 := hs3.1.2.2.2.1
                  have hcl : (c2 E gl G i).length = E.n := c2_length E gl G i
                  clear z5 y0 y5 r0 r3 t3
                  by_cases hlt3 : j < (E.oth i).length
                  · obtain ⟨o, hoe⟩ : ∃ o, (E.oth i).getD j 0 = o := ⟨_, rfl⟩
                    have hom : o < E.n := by
                      rw [← hoe, List.getD_eq_getElem?_getD, List.getElem?_eq_getElem hlt3, Option.getD_some]
                      exact HOB.out _ (List.getElem_mem _)
                    have vo := HL3.out.1.cell HQ.out.1 HQ.out.2.1 HQ.out.2.2.1 (HQ.out.2.2.2 j hlt3)
                    rw [hoe] at vo
                    have vg := own_cell HL3.out.2.2.2.2.2.1 hcl o hom
                    obtain ⟨bo, hbo⟩ : ∃ b, (c2 E gl G i).getD o false = b := ⟨_, rfl⟩
                    rw [hbo] at vg
                    have HNx : Hid (othB (c2 E gl G i) ((E.oth i).take (j + 1)) = othB (c2 E gl G i) ((E.oth i).take j) ++ [bo]) := by
                      show othB (c2 E gl G i) ((E.oth i).take (j + 1)) = othB (c2 E gl G i) ((E.oth i).take j) ++ [bo]
                      have e1 : (E.oth i).take (j + 1) = (E.oth i).take j ++ [o] := by
                        rw [List.take_add_one, List.getElem?_eq_getElem hlt3]
                        have : (E.oth i)[j] = o := by rw [← hoe, List.getD_eq_getElem?_getD, List.getElem?_eq_getElem hlt3, Option.getD_some]
                        rw [this]; rfl
                      rw [e1]
                      simp [othB, ← hbo]
                    have hlen : (othB (c2 E gl G i) ((E.oth i).take j)).length = j := by simp [othB]; omega
                    obtain ⟨OS, hOS⟩ : ∃ l, othB (c2 E gl G i) ((E.oth i).take j) = l := ⟨_, rfl⟩
                    rw [hOS] at HL3 hlen HNx
                    have b1 : (0 : Int) ≤ (o : Int) := by omega
                    have b2 : (o : Int) < (E.n : Int) := by omega
                    have hgl3 := ((HL3.out.2.2.2.2.2.1).lt g rfl).2
                    have HGW : Hid (∀ x : Nat, x < c.w0.heap.size → some x ≠ ov3.ownBlock) := fun x hx e => by have := ((HL3.out.2.2.2.2.2.2.1).lt x e.symm).1; omega
                    have HAP : Hid (some g ≠ ov3.ownBlock) := fun e => HL3.out.2.2.2.2.2.2.2 g rfl e.symm
                    have HWB : Hid (c.wb < c.w0.heap.size) := HL3.out.2.1.2.1
                    have wl := HL3.out.lt.2
                    clear hoe hbo hOS
                    go_wp2_with fail
                    go_region_law ((refine step_append_lies _ (by rfl) _ _ 24 (by rfl) c.w0.heap.size 4 i0 (.bool false) 1 1 Ybaf.underlying24 hi hz0 hz1 hz2 rfl (by omega) ov3 OS.length (bools OS) (by rfl) (own_push (HL3.out.2.2.2.2.2.2.1) _ (by rfl)) ⟨wr.heap.size, 0, none⟩ 1 1 (bools [bo]) (by rfl) rfl (newsB (w := wr) bo (by rfl)) (bools_one _) (by omega) (by unfold maxLen; omega) (by omega) (by simp; omega) _ rfl ?_; intro g3 cap3 w3 hown hgrow hat hlt4; have HN : Hid (StL c (gk E.op E.n) ends log lv3 (.slice (some ⟨g, 0, none⟩) E.n cap) (c2 E gl G i) (.slice (some ⟨g3, 0, none⟩) (OS.length + 1) cap3) (OS ++ [bo]) (w3.setCell ⟨c.wb, 3, none⟩ (.slice (some ⟨g3, 0, none⟩) (OS.length + 1) cap3))) := StL.setOthers (h := by exact (HL3.out.alloc (.cells #[.bool bo] 4)).same rfl rfl rfl rfl) (news := [bo]) hgrow hown (hat_of hat); have u3 : w3.cell? ⟨c.wb, 3, none⟩ = some ov3 := by { rw [hgrow.cell_far _ (by simp; omega) (HGW.out _ HWB.out)]; exact (((Below.refl wr.heap.size wr).alloc (Nat.le_refl _) _).cell (p := ⟨c.wb, 3, none⟩) wl).trans v3 }; have h3 : w3.frozen? ⟨c.wb, 3, none⟩ = false := by { rw [hgrow.frozen_far _ (by simp; omega) (HGW.out _ HWB.out)]; exact frozen_old _ wl f3 }; clear hown hgrow hat hlt4))
                    all_goals (go_wp2; go_roundw)
                    all_goals first | (simp [intOf]; omega) | (have e9 := HN.out; rw [hlen] at e9; exact ⟨j + 1, _, hlt3, by go_num, lv3, by rw [HNx.out]; exact e9.same rfl rfl rfl rfl⟩)
                  · obtain rfl : j = (E.oth i).length := by omega
                    have HF3 : Hid (StL c (gk E.op E.n) ends log lv3 (.slice (some ⟨g, 0, none⟩) E.n cap) (c2 E gl G i) ov3 (othB (c2 E gl G i) (E.oth i)) wr) := by
                      have := HL3.out
                      rw [List.take_length] at this
                      exact this
                    obtain ⟨A3, cap3, hov3, hel3⟩ := own_elems HF3.out.2.2.2.2.2.2.1
                    subst hov3
                    have hlen3 : (othB (c2 E gl G i) (E.oth i)).length ≤ 1000 := by simp [othB]; omega
                    have vg := own_cell HF3.out.2.2.2.2.2.1 hcl i hlt
                    have fg : wr.frozen? ⟨g, i, none⟩ = false := by
                      have := HF3.out.2.2.2.2.2.1
                      rw [hcl] at this
                      exact this.frozenAt i
                    have HNn : Hid (∀ W : World, W.heap = wr.heap → Elems W A3 (othB (c2 E gl G i) (E.oth i)).length (fun j => .bool ((othB (c2 E gl G i) (E.oth i)).getD j false))) := fun W hW h0 => by
                      obtain ⟨b, o, e, hb, hc⟩ := hel3 h0
                      exact ⟨b, o, e, by rw [hW]; exact hb, fun j hj => by have := hc j hj; simp only [World.cell?, hW] at this ⊢; exact this⟩
                    clear hel3
                    go_wp2_with fail
                    go_region_held3 (fun w' => w'.cell? ⟨c.wb, 0, none⟩ = some (.iface 46 (.pointer (some ⟨c.xb, 0, none⟩))) ∧ w'.cell? ⟨c.wb, 3, none⟩ = some (.slice A3 (othB (c2 E gl G i) (E.oth i)).length cap3)) (go_keep)
                      (first | (go_at_call 55; refine (none_any c.xb A3 _ cap3 (fun j => (othB (c2 E gl G i) (E.oth i)).getD j false) _ (HNn.out _ (by rfl)) (by omega)).mono ?_; rintro e w' ⟨rfl, rfl⟩))
                    have hX : ((List.range (othB (c2 E gl G i) (E.oth i)).length).all fun j => !(othB (c2 E gl G i) (E.oth i))[j]?.getD false) = ((othB (c2 E gl G i) (E.oth i)).all fun b => !b) := by simpa [List.getD_eq_getElem?_getD] using all_range (othB (c2 E gl G i) (E.oth i))
                    rw [hX]
                    clear hX
                    have HFin : Hid (StL c (gk E.op E.n) ends log lv3 (.slice (some ⟨g, 0, none⟩) E.n cap) (c2 E gl G (i + 1)) (.slice A3 (othB (c2 E gl G i) (E.oth i)).length cap3) (othB (c2 E gl G i) (E.oth i)) (wr.setCell ⟨g, i, none⟩ (.bool ((othB (c2 E gl G i) (E.oth i)).all fun b => !b)))) := by
                      have := HF3.out.condSet (i := i) (b := (othB (c2 E gl G i) (E.oth i)).all fun b => !b) hcl
                      rw [← hc2.out] at this
                      exact this
                    go_wp2
                    go_roundw
                    case rel => exact ⟨i + 1, _, _, hlt, by go_num, lv3, HFin.out.same rfl rfl rfl rfl⟩
                    case measure => simp [intOf]; omega
            · have hc2 : Hid (c2 E gl G (i + 1) = c2 E gl G i) := if_neg ho
              have hb : (((E.op i : Nat) : Int) == 3) = false := by
                rw [beq_eq_false_iff_ne]
                omega
              have hb2 : ((E.op i : Nat) : Int) ≠ 3 := by omega
              go_wp2
              go_roundw
              case rel => exact ⟨i + 1, ov, os, hlt, by go_num, by rw [hc2.out]; exact H2.out⟩
              case measure => simp [intOf]; omega
          · obtain rfl : i = E.n := by omega
            go_wp2
            go_ret2
            exact .inr ⟨HGd.out, _, _, _, rfl, H2.out⟩
end Go.Proofs.YbulkcwciFmt
