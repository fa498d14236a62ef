import Derived.Test.YbulkcwciBuild
import Derived.Deep.DeepCutAuto
import Derived.Deep.CutBlock
namespace Go.Proofs.Ybulkcwci
open Go.RowKit Go.Deep

/-- What the law lays down for its arguments. -/
def nameAt (Z : Nat → Nat) (i : Nat) : ByteArray := tab (Z i % 4)
def finAt (m : Nat) (G : Nat → Bool) (i : Nat) : Bool := decide (i < m) && G i

theorem fairS_toList : fairS.toList = [102, 97, 105, 114, 110, 101, 115, 115] := by decide +kernel

theorem exists_fair (K : Nat → ByteArray) (B : Nat) : ∀ n, ∃ fp, IsFair K n B fp
  | 0 => ⟨none, .inl ⟨rfl, fun i hi => absurd hi (by omega)⟩⟩
  | n + 1 => by
    obtain ⟨fp, h⟩ := exists_fair K B n
    rcases h with ⟨rfl, h⟩ | ⟨f, h1, h2, h3, rfl⟩
    · cases hb : ((K n).toList == fairS.toList)
      · refine ⟨none, .inl ⟨rfl, fun i hi => ?_⟩⟩
        by_cases e : i = n
        · subst e; exact hb
        · exact h i (by omega)
      · exact ⟨_, .inr ⟨n, by omega, hb, h, rfl⟩⟩
    · exact ⟨_, .inr ⟨f, by omega, h2, h3, rfl⟩⟩

theorem IsFair.is_some {K : Nat → ByteArray} {n B i : Nat} {fp : Option Addr} (h : IsFair K n B fp) (hi : i < n) (hb : ((K i).toList == fairS.toList) = true) (hl : ∀ x, x < i → ((K x).toList == fairS.toList) = false) : fp = some ⟨B + 2 + i, 0, none⟩ := by
  rcases h with ⟨_, h⟩ | ⟨f, h1, h2, h3, rfl⟩
  · rw [h i hi] at hb; cases hb
  · have : f = i := by
      by_cases e : f < i
      · rw [hl f e] at h2; cases h2
      · by_cases e2 : i < f
        · rw [h3 i e2] at hb; cases hb
        · omega
    rw [this]
theorem IsFair.is_none {K : Nat → ByteArray} {n B : Nat} {fp : Option Addr} (h : IsFair K n B fp) (hl : ∀ x, x < n → ((K x).toList == fairS.toList) = false) : fp = none := by
  rcases h with ⟨h, _⟩ | ⟨f, h1, h2, h3, rfl⟩
  · exact h
  · rw [hl f h1] at h2; cases h2

/-- Does the law expect the fair one back? -/
def wantB (fp sp : Option Addr) (fin : Bool) : Bool := fp.isSome && decide (sp ≠ fp) && !fin
theorem wantOf_true {fp sp : Option Addr} {fin : Bool} (h : wantB fp sp fin = true) : wantOf fp sp fin = fp := by
  unfold wantB at h
  unfold wantOf
  simp only [Bool.and_eq_true, decide_eq_true_eq, Bool.not_eq_true'] at h
  rw [if_pos ⟨h.1.1, h.1.2, h.2⟩]
theorem wantOf_false {fp sp : Option Addr} {fin : Bool} (h : wantB fp sp fin = false) : wantOf fp sp fin = none := by
  unfold wantOf
  rw [if_neg]
  rintro ⟨h1, h2, h3⟩
  unfold wantB at h
  simp [h1, h2, h3] at h

theorem wantB_ne {b f : Nat} (h : b ≠ f) (fin : Bool) : wantB (some ⟨f, 0, none⟩) (some ⟨b, 0, none⟩) fin = !fin := by
  have e : (some (⟨b, 0, none⟩ : Addr) ≠ some ⟨f, 0, none⟩) := fun x => h (congrArg Addr.block (Option.some.inj x))
  simp only [wantB, e, ne_eq, not_false_eq_true, decide_true, Option.isSome_some, Bool.and_self, Bool.true_and]

/-- The formula that the law hands on, wherever it comes from. -/
def Chosen (w wx : World) (B Mb n q : Nat) (K : Nat → ByteArray) (F : Nat → Bool) (fp sp : Option Addr) (fin ff : Bool) : Prop :=
  (∃ nm, SpecAt wx sp nm fin) ∧ (sp = none → fp = none) ∧ (n ≤ q → fin = ff) ∧ MW wx B Mb n K F ∧ Below B w wx

/-- The model's cells. -/
def modelCells (B n : Nat) : Array Value := #[.string ⟨#[]⟩, .slice none 0 0, .slice none 0 0, .slice none 0 0, .slice none 0 0, .slice none 0 0, .slice none 0 0, .slice (some ⟨B + 1, 0, none⟩) n n]

theorem SRel.model {w wr : World} {n : Nat} {K : Nat → ByteArray} {F : Nat → Bool} (h : SRel w n K F n wr) : MW (wr.alloc (.cells (modelCells w.heap.size n) 41)) w.heap.size wr.heap.size n K F ∧ Below w.heap.size w (wr.alloc (.cells (modelCells w.heap.size n) 41)) := by
  obtain ⟨h1, h2, h0, h3, h4⟩ := h
  refine ⟨⟨?_, (h3.alloc _).congr (fun i hi => by rw [if_pos hi]), fun i hi => ?_, blk_alloc_new _ _, by omega⟩, h2.alloc (by omega) _⟩
  · rw [blk_alloc_lt _ _ _ (by omega)]; exact h0
  · rw [blk_alloc_lt _ _ _ (by omega)]; exact h4 i hi

theorem idx22 {w : World} {na : Option Addr} {n nc : Nat} {f : Nat → Value} (h : Elems w na n f) {i : Nat} (hi : i < n) :
    ∃ b o, (∀ w' : World, (Instr.indexAt 22 (.slice na n nc) (.int .i64 (i : Int))).run Yba.prog w' = .ok (.pointer (some ⟨b, o + i, none⟩)) w') ∧ b < w.heap.size ∧ w.cell? ⟨b, o + i, none⟩ = some (f i) := by
  obtain ⟨b, o, rfl, hb, hc⟩ := h (by omega)
  refine ⟨b, o, fun w' => ?_, hb, hc i hi⟩
  have hi' : (i : Int) < (n : Int) := by omega
  simp [go_sem, hi', Yba.underlying22]

theorem idx23 {w : World} {na : Option Addr} {n nc : Nat} {f : Nat → Value} (h : Elems w na n f) {i : Nat} (hi : i < n) :
    ∃ b o, (∀ w' : World, (Instr.indexAt 23 (.slice na n nc) (.int .i64 (i : Int))).run Yba.prog w' = .ok (.pointer (some ⟨b, o + i, none⟩)) w') ∧ b < w.heap.size ∧ w.cell? ⟨b, o + i, none⟩ = some (f i) := by
  obtain ⟨b, o, rfl, hb, hc⟩ := h (by omega)
  refine ⟨b, o, fun w' => ?_, hb, hc i hi⟩
  have hi' : (i : Int) < (n : Int) := by omega
  simp [go_sem, hi', Yba.underlying23]

set_option maxHeartbeats 4000000 in
set_option maxRecDepth 100000 in
theorem result_walk (na fa : Option Addr) (n nc m fc s : Nat) (ff : Bool) (Z : Nat → Nat) (G : Nat → Bool) (w : World) (hn : n ≤ 1024) (hm : m ≤ 9223372036854775807) (hs : s < 256) (hZ : ∀ j, j < n → Z j < 256)
    (hk : Elems w na n (fun j => .int .u8 (Z j))) (ha : Elems w fa m (fun j => .bool (G j))) :
    Calls Yba.prog 3 #[.slice na n nc, .slice fa m fc, .int .u8 s, .bool ff] w fun e w' => e = .returned (.bool true) ∧ Below w.heap.size w w' := by
  have hmk := run_make_row' (P := Yba.prog) 25 26 (.pointer none) 8 Yba.underlying25 Yba.info26 rfl .i64 .i64 n (by omega) (by omega)
  have HK : Hid (Elems w na n (fun j => .int .u8 (Z j))) := hk
  have HA : Hid (Elems w fa m (fun j => .bool (G j))) := ha
  have HZ : Hid (∀ j, j < n → Z j < 256) := hZ
  clear hk ha hZ
  go_enter Yba.func3, Yba.ntmps3
  go_wp2
  clear hmk
  go_loopw [11] (fun v wr => ∃ k : Nat, k ≤ n ∧ v = .int .i64 k ∧ SRel w n (nameAt Z) (finAt m G) k wr) (fun v _ => n - (intOf v).toNat)
  case atStart => exact ⟨0, Nat.zero_le _, rfl, SRel.start _ _ _ _⟩
  case round =>
    obtain ⟨k, hkn, rfl, hrel⟩ := hrel
    by_cases hlt : k < n
    · obtain ⟨nb, no, x1, x2, x3⟩ := idx22 (nc := nc) HK.out hlt
      have x4 := (hrel.2.1.cell x2).trans x3
      have x5 := HZ.out k hlt
      have x6 := hrel.tcell (j := Z k % 4) (by omega)
      have cz := fun o => (hrel.room hlt o).1
      have fz := fun o => (hrel.room hlt o).2
      have HT : Hid (SRel w n (nameAt Z) (finAt m G) (k + 1) ((wr.alloc (.cells (node (tab (Z k % 4)) (finAt m G k)) 32)).setCell ⟨w.heap.size + 1, k, none⟩ (.pointer (some ⟨wr.heap.size, 0, none⟩)))) := hrel.step
      have HR : Hid (SRel w n (nameAt Z) (finAt m G) k wr) := hrel
      clear hrel x2 x3
      by_cases hlm : k < m
      · obtain ⟨fb, fo, y1, y2, y3⟩ := idx23 (nc := fc) HA.out hlm
        have y4 := (HR.out.2.1.cell y2).trans y3
        clear y2 y3
        have e1 : finAt m G k = G k := by simp [finAt, hlm]
        rw [e1] at HT
        clear e1
        go_wp2
        go_roundw
        case rel => exact ⟨k + 1, hlt, by go_num, HT.out⟩
        case measure => simp [intOf]; omega
      · have e1 : finAt m G k = false := by simp [finAt, hlm]
        rw [e1] at HT
        clear e1
        go_wp2
        go_roundw
        case rel => exact ⟨k + 1, hlt, by go_num, HT.out⟩
        case measure => simp [intOf]; omega
    · obtain rfl : k = n := by omega
      obtain ⟨mw, bel⟩ := hrel.model
      obtain ⟨fp, hf⟩ := exists_fair (nameAt Z) w.heap.size k
      have hsz := hrel.1
      obtain ⟨W0, hW0⟩ : ∃ W0, W0 = wr.alloc (.cells (modelCells w.heap.size k) 41) := ⟨_, rfl⟩
      obtain ⟨Mb, hMb⟩ : ∃ Mb, Mb = wr.heap.size := ⟨_, rfl⟩
      rw [← hMb, ← hW0] at mw
      rw [← hW0] at bel
      have hWs : W0.heap.size = Mb + 1 := by rw [hW0, hMb]; simp
      have HM : Hid (MW W0 w.heap.size Mb k (nameAt Z) (finAt m G)) := mw
      have HB : Hid (Below w.heap.size w W0) := bel
      have HF : Hid (IsFair (nameAt Z) k w.heap.size fp) := hf
      have HW : Hid (W0 = wr.alloc (.cells (modelCells w.heap.size k) 41) ∧ Mb = wr.heap.size ∧ W0.heap.size = Mb + 1) := ⟨hW0, hMb, hWs⟩
      clear hrel mw bel hf hsz hWs hW0 hMb
      go_upto_block 2 with fail
      have hw := HW.out.1
      unfold modelCells at hw
      rw [← hw, ← HW.out.2.1]
      clear hw
      go_cut [14, 15] (fun v14 _ wx => v14 = .pointer fp ∧ wx = W0)
      case first =>
        go_wp2_with fail
        go_loop [14, 15] (fun v14 v15 => ∃ i : Nat, i ≤ k ∧ v15 = .int .i64 i ∧ v14 = .pointer none ∧ ∀ x, x < i → ((nameAt Z x).toList == fairS.toList) = false) (fun _ v15 => k - (intOf v15).toNat)
        case atStart => exact ⟨0, Nat.zero_le _, rfl, rfl, fun x hx => absurd hx (by omega)⟩
        case round =>
          obtain ⟨i, hi, rfl, rfl, hx⟩ := hrel
          have HX : Hid (∀ x, x < i → ((nameAt Z x).toList == fairS.toList) = false) := hx
          clear hx
          by_cases hik : i < k
          · have p1 := HM.out.pcell hik
            obtain ⟨p2, -⟩ := HM.out.ncell hik
            cases hb : ((nameAt Z i).toList == fairS.toList)
            · have hb2 := hb
              rw [fairS_toList] at hb2
              have HB2 : Hid (((nameAt Z i).toList == fairS.toList) = false) := hb
              clear hb
              go_wp2
              go_round
              case rel => exact ⟨i + 1, by omega, by go_num, rfl, fun x hx => by
                by_cases e : x = i
                · subst e; exact HB2.out
                · exact HX.out x (by omega)⟩
              case measure => simp [intOf]; omega
            · have hb2 := hb
              rw [fairS_toList] at hb2
              have HP : Hid (fp = some ⟨w.heap.size + 2 + i, 0, none⟩) := HF.out.is_some hik hb HX.out
              clear hb
              go_wp2
              go_meet
              case rel => exact ⟨by rw [HP.out], rfl⟩
          · obtain rfl : i = k := by omega
            have HP : Hid (fp = none) := HF.out.is_none HX.out
            go_wp2
            go_meet
            case rel => exact ⟨by rw [HP.out], rfl⟩
      case rest =>
        obtain ⟨rfl, rfl⟩ := hcut
        go_upto_if 89 with fail
        obtain ⟨q, hq, hq2⟩ : ∃ q : Nat, ((s : Int) % ((k : Int) + 2)) = q ∧ q < k + 2 := ⟨s % (k + 2), by simp [Int.natCast_emod], Nat.mod_lt _ (by omega)⟩
        rw [hq]
        clear hq
        go_cut [17] (fun v17 wx => ∃ sp fin, v17 = .pointer sp ∧ Chosen w wx w.heap.size Mb k q (nameAt Z) (finAt m G) fp sp fin ff)
        case first =>
          by_cases h1 : q < k
          · have p1 := HM.out.pcell h1
            have HC : Hid (Chosen w wc w.heap.size Mb k q (nameAt Z) (finAt m G) fp (some ⟨w.heap.size + 2 + q, 0, none⟩) (finAt m G q) ff) :=
              ⟨⟨_, .inr ⟨_, rfl, HM.out.2.2.1 q h1⟩⟩, (fun h => by cases h), fun h => absurd h (by omega), HM.out, HB.out⟩
            go_wp2
            go_meet
            case rel => exact ⟨_, _, rfl, HC.out⟩
          · by_cases h2 : q = k
            · subst h2
              have HC : Hid (Chosen w (wc.alloc (.cells (node fairS ff) 32)) w.heap.size Mb q q (nameAt Z) (finAt m G) fp (some ⟨wc.heap.size, 0, none⟩) ff ff) :=
                ⟨⟨_, .inr ⟨_, rfl, blk_alloc_new _ _⟩⟩, (fun h => by cases h), fun _ => rfl, HM.out.of_blocks (fun k hk => blk_alloc_lt _ _ _ hk), HB.out.alloc HB.out.size _⟩
              go_wp2
              go_meet
              case rel => exact ⟨_, _, rfl, HC.out⟩
            · have h3 : ((q : Int) == (k : Int)) = false := by rw [beq_eq_false_iff_ne]; omega
              cases fp with
              | none =>
                have HC : Hid (Chosen w wc w.heap.size Mb k q (nameAt Z) (finAt m G) none none ff ff) :=
                  ⟨⟨fairS, .inl rfl⟩, (fun h => h), fun _ => rfl, HM.out, HB.out⟩
                go_wp2
                go_meet
                case rel => exact ⟨_, _, rfl, HC.out⟩
              | some f =>
                have HC : Hid (Chosen w (wc.alloc (.cells (node ⟨#[111, 116, 104, 101, 114]⟩ ff) 32)) w.heap.size Mb k q (nameAt Z) (finAt m G) (some f) (some ⟨wc.heap.size, 0, none⟩) ff ff) :=
                  ⟨⟨_, .inr ⟨_, rfl, blk_alloc_new _ _⟩⟩, (fun h => by cases h), fun _ => rfl, HM.out.of_blocks (fun k hk => blk_alloc_lt _ _ _ hk), HB.out.alloc HB.out.size _⟩
                go_wp2
                go_meet
                case rel => exact ⟨_, _, rfl, HC.out⟩
        case rest =>
          clear HM HB HW
          rename_i wc0
          obtain ⟨sp, fin, rfl, hch⟩ := hcut
          have HC : Hid (Chosen w wc w.heap.size Mb k q (nameAt Z) (finAt m G) fp sp fin ff) := hch
          clear hch
          go_upto_region 27 with fail
          go_cut [119] (fun v119 wx => v119 = .bool (wantB fp sp fin) ∧ wx = wc)
          case first =>
            obtain ⟨⟨nm, hsp⟩, hnil, -, hmw, -⟩ := HC.out
            have hat := HF.out.at hmw
            have nself := neq26_self
            rcases hat with rfl | ⟨f, nm', g, rfl, hfb⟩
            · clear hsp hnil hmw
              go_wp2
              go_meet
              case rel => exact ⟨rfl, rfl⟩
            · rcases hsp with rfl | ⟨b, rfl, hb⟩
              · exact absurd (hnil rfl) (by simp)
              · have cf : wc.cell? ⟨b, 4, none⟩ = some (.bool fin) := by simp [World.cell?, hb, node]
                clear hnil hmw
                by_cases hfb2 : b = f
                · subst hfb2
                  have ew : Hid (wantB (some ⟨b, 0, none⟩) (some ⟨b, 0, none⟩) fin = false) := by simp [Hid, wantB]
                  clear hb hfb
                  go_wp2
                  go_meet
                  case rel => exact ⟨by rw [ew.out], rfl⟩
                · have hno := neq26_other hfb2 hb hfb
                  have ew : Hid (wantB (some ⟨f, 0, none⟩) (some ⟨b, 0, none⟩) fin = !fin) := wantB_ne hfb2 fin
                  clear hb hfb nself
                  go_wp2
                  go_meet
                  case rel => exact ⟨by rw [ew.out], rfl⟩
          case rest =>
            obtain ⟨rfl, hwc⟩ := hcut
            subst hwc
            go_upto_if 119 with fail
            go_cut [18] (fun v18 wx => v18 = .pointer (wantOf fp sp fin) ∧ wx = wc)
            case first =>
              cases hb : wantB fp sp fin
              · have ew : Hid (wantOf fp sp fin = none) := wantOf_false hb
                clear hb
                go_wp2
                go_meet
                case rel => exact ⟨by rw [ew.out], rfl⟩
              · have ew : Hid (wantOf fp sp fin = fp) := wantOf_true hb
                clear hb
                go_wp2
                go_meet
                case rel => exact ⟨by rw [ew.out], rfl⟩
            case rest =>
              obtain ⟨rfl, hwc⟩ := hcut
              subst hwc
              go_wp2_with fail
              obtain ⟨⟨nm, hsp⟩, hnil, hff, hmw, hbel⟩ := HC.out
              refine (premise_any wc w.heap.size Mb k (nameAt Z) (finAt m G) fp sp nm fin hn hmw HF.out hsp hnil).mono ?_
              rintro e w2 ⟨rfl, hw2⟩
              subst hw2
              have cm := hmw.mcell
              have nself := neq26_self
              obtain ⟨wt, hwt⟩ : ∃ wt, wantOf fp sp fin = wt := ⟨_, rfl⟩
              rw [hwt]
              clear hwt HC HF
              have HM2 : Hid (MW w2 w.heap.size Mb k (nameAt Z) (finAt m G)) := hmw
              have HB2 : Hid (Below w.heap.size w w2) := hbel
              have HS2 : Hid (SpecAt w2 sp nm fin) := hsp
              have HF2 : Hid (k ≤ q → fin = ff) := hff
              clear hmw hbel hsp hff hnil
              go_wp2_with fail
              go_loopw [20] (fun v wx => ∃ i : Nat, i ≤ k ∧ v = .int .i64 i ∧ ∃ nq, wx = w2.drewN nq) (fun v _ => k - (intOf v).toNat)
              case atStart => exact ⟨0, Nat.zero_le _, rfl, 0, rfl⟩
              case round =>
                obtain ⟨i, hi, rfl, nq, rfl⟩ := hrel
                by_cases hik : i < k
                · by_cases him : i < m
                  · have z1 := HZ.out i hik
                    obtain ⟨nb, no, x1, x2, x3⟩ := idx22 (nc := nc) HK.out hik
                    have x4 := (HB2.out.cell x2).trans x3
                    have x5 := HM2.out.tcell (j := Z i % 4) (by omega)
                    have p1 := HM2.out.pcell hik
                    obtain ⟨p2, p3⟩ := HM2.out.ncell hik
                    have p2' : w2.cell? ⟨w.heap.size + 2 + i, 0, none⟩ = some (.string (tab (Z i % 4))) := p2
                    clear p2 x2 x3
                    obtain ⟨fb, fo, y1, y2, y3⟩ := idx23 (nc := fc) HA.out him
                    have y4 := (HB2.out.cell y2).trans y3
                    rw [show finAt m G i = G i by simp [finAt, him]] at p3
                    clear y2 y3
                    go_wp2_with fail
                    go_quiet (fail)
                    go_wp2
                    go_roundw
                    case rel => exact ⟨i + 1, hik, by go_num, _, rfl⟩
                    case measure => simp [intOf]; omega
                  · have z1 := HZ.out i hik
                    obtain ⟨nb, no, x1, x2, x3⟩ := idx22 (nc := nc) HK.out hik
                    have x4 := (HB2.out.cell x2).trans x3
                    have x5 := HM2.out.tcell (j := Z i % 4) (by omega)
                    have p1 := HM2.out.pcell hik
                    obtain ⟨p2, p3⟩ := HM2.out.ncell hik
                    have p2' : w2.cell? ⟨w.heap.size + 2 + i, 0, none⟩ = some (.string (tab (Z i % 4))) := p2
                    clear p2 x2 x3
                    rw [show finAt m G i = false by simp [finAt, him]] at p3
                    go_wp2_with fail
                    go_quiet (fail)
                    go_wp2
                    go_roundw
                    case rel => exact ⟨i + 1, hik, by go_num, _, rfl⟩
                    case measure => simp [intOf]; omega
                · rcases HS2.out with rfl | ⟨b, rfl, hb⟩
                  · go_wp2
                    go_ret
                    exact ⟨rfl, below_drewN HB2.out _⟩
                  · have cf : w2.cell? ⟨b, 4, none⟩ = some (.bool fin) := by simp [World.cell?, hb, node]
                    clear hb
                    by_cases hqk : q < k
                    · go_wp2
                      go_ret
                      exact ⟨rfl, below_drewN HB2.out _⟩
                    · obtain rfl := HF2.out (by omega)
                      go_wp2
                      go_ret
                      exact ⟨rfl, below_drewN HB2.out _⟩

end Go.Proofs.Ybulkcwci
