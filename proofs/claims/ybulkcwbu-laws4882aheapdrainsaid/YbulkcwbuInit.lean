import Derived.Test.YbulkcwbuDown2
namespace Go.Proofs.Ybulkcwbu
open Go.RowKit Go.Deep

/-- What holds when Init has returned. -/
def InitEnd (K : Nat → ByteArray) (A : Nat → Int) (B hb n : Nat) (l : Nat → Nat) (w : World) (e : Ending) (w' : World) : Prop :=
  e = .returned (.tuple #[]) ∧ ∃ l', HW w' B hb n n l' K A ∧ Hp K A 0 n l' ∧ Rr n l l' ∧ Only (· = B) w w'

set_option maxHeartbeats 1000000 in
theorem init_any (w : World) (B hb n : Nat) (l : Nat → Nat) (K : Nat → ByteArray) (A : Nat → Int) (h : HW w B hb n n l K A) (hn : n ≤ 1024) :
    Calls Yba.prog 7 #[.iface 49 (.pointer (some ⟨hb, 0, none⟩))] w fun e w' => InitEnd K A B hb n l w e w' := by
  have hl := mlen h.hcell
  have H0 : Hid (HW w B hb n n l K A) := h
  clear h
  go_enter Yba.func7, Yba.ntmps7
  go_wp2_with fail
  refine (len_any _ _ _ _).mono ?_
  rintro e w0 ⟨rfl, hw0⟩
  subst hw0
  clear hl
  go_wp2_with fail
  go_loopw [3] (fun v wr => ∃ (s : Nat) (l' : Nat → Nat), v = .int .i64 ((s : Int) - 1) ∧ s ≤ n ∧ HW wr B hb n n l' K A ∧ Hp K A s n l' ∧ Rr n l l' ∧ Only (· = B) w0 wr) (fun v _ => (intOf v + 1).toNat)
  case atStart => exact ⟨n / 2, l, by go_num, by omega, H0.out, fun i hi c hc hch => by unfold child at hch; omega, Rr.refl _ _, Only.refl _ _⟩
  case round =>
    obtain ⟨s, l', rfl, hsn, hw, hp, hr, ho⟩ := hrel
    have R : Hid (HW wr B hb n n l' K A ∧ Hp K A s n l' ∧ Rr n l l' ∧ Only (· = B) w0 wr) := ⟨hw, hp, hr, ho⟩
    clear hw hp hr ho
    by_cases h0 : s = 0
    · subst h0
      have G : Hid (InitEnd K A B hb n l w0 (.returned (.tuple #[])) wr) := ⟨rfl, l', R.out⟩
      go_wp2
      go_end0
      exact G.out
    · obtain ⟨t, rfl⟩ : ∃ t, s = t + 1 := ⟨s - 1, by omega⟩
      have hz : (0 : Int) ≤ ((t + 1 : Nat) : Int) - 1 := by omega
      go_wp2_with fail
      refine (down_any wr B hb n n l' K A t n _ _ R.out.1 hn (by omega) (Nat.le_refl _) R.out.2.1 (by omega) rfl).mono ?_
      rintro e w1 ⟨b, l2, rfl, g1, g2, g3, g4⟩
      have E : Hid (HW w1 B hb n n l2 K A ∧ Hp K A t n l2 ∧ Rr n l l2 ∧ Only (· = B) w0 w1) := ⟨g1, g2, R.out.2.2.1.trans g3, R.out.2.2.2.trans g4⟩
      clear g1 g2 g3 g4
      go_wp2
      go_roundw
      case rel => exact ⟨t, l2, by go_num, by omega, E.out⟩
      case measure => simp [intOf]
end Go.Proofs.Ybulkcwbu
