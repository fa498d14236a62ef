import Derived.Test.YbulkcwbuDown
namespace Go.Proofs.Ybulkcwbu
open Go.RowKit Go.Deep

/-- What holds when 'down' has returned. -/
def DownEnd (K : Nat → ByteArray) (A : Nat → Int) (B hb n m s mm : Nat) (l : Nat → Nat) (w : World) (e : Ending) (w' : World) : Prop :=
  ∃ b l', e = .returned (.bool b) ∧ HW w' B hb n m l' K A ∧ Hp K A s mm l' ∧ Rr mm l l' ∧ Only (· = B) w w'

theorem first_right {K : Nat → ByteArray} {A : Nat → Int} {m i : Nat} {l : Nat → Nat} (h : 2 * i + 2 < m) (hl : lessB K A (l (2 * i + 2)) (l (2 * i + 1)) = true) : First K A m i (2 * i + 2) l :=
  ⟨h, .inr rfl, fun c _ hch => by
    rcases hch with rfl | rfl
    · exact leR_of hl
    · exact leR_refl _ _ _⟩
theorem first_left {K : Nat → ByteArray} {A : Nat → Int} {m i : Nat} {l : Nat → Nat} (h : 2 * i + 2 < m) (hl : lessB K A (l (2 * i + 2)) (l (2 * i + 1)) = false) : First K A m i (2 * i + 1) l :=
  ⟨by omega, .inl rfl, fun c _ hch => by
    rcases hch with rfl | rfl
    · exact leR_refl _ _ _
    · exact leR_of_not hl⟩
theorem first_only {K : Nat → ByteArray} {A : Nat → Int} {m i : Nat} {l : Nat → Nat} (h1 : 2 * i + 1 < m) (h2 : ¬ 2 * i + 2 < m) : First K A m i (2 * i + 1) l :=
  ⟨h1, .inl rfl, fun c hc hch => by
    rcases hch with rfl | rfl
    · exact leR_refl _ _ _
    · omega⟩

set_option maxHeartbeats 2000000 in
theorem down_any (w : World) (B hb n m : Nat) (l : Nat → Nat) (K : Nat → ByteArray) (A : Nat → Int) (s mm : Nat) (x y : Int) (h : HW w B hb n m l K A) (hn : n ≤ 1024) (hs : s ≤ 1024) (hmm : mm ≤ m) (hp : Hp K A (s + 1) mm l) (hx : x = s) (hy : y = mm) :
    Calls Yba.prog 10 #[.iface 49 (.pointer (some ⟨hb, 0, none⟩)), .int .i64 x, .int .i64 y] w fun e w' => DownEnd K A B hb n m s mm l w e w' := by
  subst hx; subst hy
  have hmn : m ≤ n := h.2.2.2.2.1
  have H0 : Hid (HW w B hb n m l K A) := h
  have H1 : Hid (Hp K A (s + 1) mm l) := hp
  clear h hp
  go_enter Yba.func10, Yba.ntmps10
  go_wp2
  go_loopw [7] (fun v wr => ∃ (i : Nat) (l' : Nat → Nat), v = .int .i64 i ∧ (i < mm ∨ i = s) ∧ HW wr B hb n m l' K A ∧ DInv K A s mm i l' ∧ Rr mm l l' ∧ Only (· = B) w wr) (fun v _ => mm - (intOf v).toNat)
  case atStart => exact ⟨s, l, rfl, .inr rfl, H0.out, DInv.start H1.out, Rr.refl _ _, Only.refl _ _⟩
  case round =>
    obtain ⟨i, l', rfl, hi, hw, hd, hr, ho⟩ := hrel
    have hsi := hd.1
    have R : Hid (HW wr B hb n m l' K A ∧ DInv K A s mm i l' ∧ Rr mm l l' ∧ Only (· = B) w wr) := ⟨hw, hd, hr, ho⟩
    clear hd hr
    have hi2 : i ≤ 1024 := by omega
    by_cases h1 : mm ≤ 2 * i + 1
    · clear hw ho
      have G : Hid (DownEnd K A B hb n m s mm l w (.returned (.bool (decide (s < i)))) wr) := ⟨_, l', rfl, R.out.1, R.out.2.1.leaf h1, R.out.2.2.1, R.out.2.2.2⟩
      go_wp2
      go_ret
      exact G.out
    · by_cases h2 : 2 * i + 2 < mm
      · have ml := mless hw.hcell
        have HWr : Hid (HW wr B hb n m l' K A) := hw
        clear hw ho
        go_wp2_with fail
        refine (less_hw HWr.out (2 * i + 2) (2 * i + 1) _ _ (by omega) (by omega) (by omega) (by omega)).mono ?_
        rintro e w1 ⟨rfl, hb1⟩
        have H2 : Hid (HW w1 B hb n m l' K A) := HWr.out.below hb1
        have O2 : Hid (Only (· = B) w w1) := R.out.2.2.2.trans (Only.of_below hb1)
        clear hb1 ml
        cases hl0 : lessB K A (l' (2 * i + 2)) (l' (2 * i + 1))
        · have F : Hid (First K A mm i (2 * i + 1) l') := first_left h2 hl0
          clear hl0
          have ml1 := mless H2.out.hcell
          go_wp2_with fail
          refine (less_hw H2.out (2 * i + 1) i _ _ (by omega) (by omega) (by omega) (by omega)).mono ?_
          rintro e w2 ⟨rfl, hb2⟩
          have H3 : Hid (HW w2 B hb n m l' K A) := H2.out.below hb2
          have O3 : Hid (Only (· = B) w w2) := O2.out.trans (Only.of_below hb2)
          clear hb2 ml1
          cases hl : lessB K A (l' (2 * i + 1)) (l' i)
          · have G : Hid (DownEnd K A B hb n m s mm l w (.returned (.bool (decide (s < i)))) w2) := ⟨_, l', rfl, H3.out, R.out.2.1.stop F.out (leR_of_not hl), R.out.2.2.1, O3.out⟩
            clear hl
            go_wp2
            go_ret
            exact G.out
          · have ms := mswap H3.out.hcell
            have L : Hid (leR K A (l' (2 * i + 1)) (l' i)) := leR_of hl
            clear hl
            go_wp2_with fail
            refine (swap_hw H3.out i (2 * i + 1) _ _ (by omega) (by omega) (by omega) (by omega)).mono ?_
            rintro e w3 ⟨rfl, hw3, ho3⟩
            have E : Hid (HW w3 B hb n m (fun x => l' (swp i (2 * i + 1) x)) K A ∧ Only (· = B) w w3) := ⟨hw3, O3.out.trans ho3⟩
            clear hw3 ho3 ms
            go_wp2
            go_roundw
            case rel => exact ⟨2 * i + 1, _, by go_num, by omega, E.out.1, R.out.2.1.step F.out L.out, R.out.2.2.1.trans (Rr.swap _ (by omega) (by omega)), E.out.2⟩
            case measure => simp [intOf]; omega
        · have F : Hid (First K A mm i (2 * i + 2) l') := first_right h2 hl0
          clear hl0
          have ml1 := mless H2.out.hcell
          go_wp2_with fail
          refine (less_hw H2.out (2 * i + 2) i _ _ (by omega) (by omega) (by omega) (by omega)).mono ?_
          rintro e w2 ⟨rfl, hb2⟩
          have H3 : Hid (HW w2 B hb n m l' K A) := H2.out.below hb2
          have O3 : Hid (Only (· = B) w w2) := O2.out.trans (Only.of_below hb2)
          clear hb2 ml1
          cases hl : lessB K A (l' (2 * i + 2)) (l' i)
          · have G : Hid (DownEnd K A B hb n m s mm l w (.returned (.bool (decide (s < i)))) w2) := ⟨_, l', rfl, H3.out, R.out.2.1.stop F.out (leR_of_not hl), R.out.2.2.1, O3.out⟩
            clear hl
            go_wp2
            go_ret
            exact G.out
          · have ms := mswap H3.out.hcell
            have L : Hid (leR K A (l' (2 * i + 2)) (l' i)) := leR_of hl
            clear hl
            go_wp2_with fail
            refine (swap_hw H3.out i (2 * i + 2) _ _ (by omega) (by omega) (by omega) (by omega)).mono ?_
            rintro e w3 ⟨rfl, hw3, ho3⟩
            have E : Hid (HW w3 B hb n m (fun x => l' (swp i (2 * i + 2) x)) K A ∧ Only (· = B) w w3) := ⟨hw3, O3.out.trans ho3⟩
            clear hw3 ho3 ms
            go_wp2
            go_roundw
            case rel => exact ⟨2 * i + 2, _, by go_num, by omega, E.out.1, R.out.2.1.step F.out L.out, R.out.2.2.1.trans (Rr.swap _ (by omega) (by omega)), E.out.2⟩
            case measure => simp [intOf]; omega
      · have H2 : Hid (HW wr B hb n m l' K A) := hw
        have O2 : Hid (Only (· = B) w wr) := ho
        have F : Hid (First K A mm i (2 * i + 1) l') := first_only (by omega) h2
        clear hw ho
        have ml1 := mless H2.out.hcell
        go_wp2_with fail
        refine (less_hw H2.out (2 * i + 1) i _ _ (by omega) (by omega) (by omega) (by omega)).mono ?_
        rintro e w2 ⟨rfl, hb2⟩
        have H3 : Hid (HW w2 B hb n m l' K A) := H2.out.below hb2
        have O3 : Hid (Only (· = B) w w2) := O2.out.trans (Only.of_below hb2)
        clear hb2 ml1
        cases hl : lessB K A (l' (2 * i + 1)) (l' i)
        · have G : Hid (DownEnd K A B hb n m s mm l w (.returned (.bool (decide (s < i)))) w2) := ⟨_, l', rfl, H3.out, R.out.2.1.stop F.out (leR_of_not hl), R.out.2.2.1, O3.out⟩
          clear hl
          go_wp2
          go_ret
          exact G.out
        · have ms := mswap H3.out.hcell
          have L : Hid (leR K A (l' (2 * i + 1)) (l' i)) := leR_of hl
          clear hl
          go_wp2_with fail
          refine (swap_hw H3.out i (2 * i + 1) _ _ (by omega) (by omega) (by omega) (by omega)).mono ?_
          rintro e w3 ⟨rfl, hw3, ho3⟩
          have E : Hid (HW w3 B hb n m (fun x => l' (swp i (2 * i + 1) x)) K A ∧ Only (· = B) w w3) := ⟨hw3, O3.out.trans ho3⟩
          clear hw3 ho3 ms
          go_wp2
          go_roundw
          case rel => exact ⟨2 * i + 1, _, by go_num, by omega, E.out.1, R.out.2.1.step F.out L.out, R.out.2.2.1.trans (Rr.swap _ (by omega) (by omega)), E.out.2⟩
          case measure => simp [intOf]; omega
end Go.Proofs.Ybulkcwbu
