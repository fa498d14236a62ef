import Derived.Test.YbulkcwbuInit
namespace Go.Proofs.Ybulkcwbu
open Go.RowKit Go.Deep

/-- What holds when heap.Pop has returned. -/
def PopEnd (K : Nat → ByteArray) (A : Nat → Int) (B hb n m : Nat) (l : Nat → Nat) (w : World) (e : Ending) (w' : World) : Prop :=
  e = .returned (.iface 27 (.pointer (some ⟨B + 1 + l 0, 0, none⟩))) ∧ ∃ l', l' (m - 1) = l 0 ∧ HW w' B hb n (m - 1) l' K A ∧ Hp K A 0 (m - 1) l' ∧ Rr m l l' ∧ Only (fun k => k = B ∨ k = hb) w w'

theorem Hp.swapped {K : Nat → ByteArray} {A : Nat → Int} {m : Nat} {l : Nat → Nat} (h : Hp K A 0 m l) : Hp K A (0 + 1) (m - 1) (fun x => l (swp 0 (m - 1) x)) := by
  intro i hi c hc hch
  have h1 : i < c := by unfold child at hch; omega
  have e : ∀ x, 0 < x → x < m - 1 → swp 0 (m - 1) x = x := fun x a b => by unfold swp; rw [if_neg (by omega), if_neg (by omega)]
  show leR K A (l (swp 0 (m - 1) i)) (l (swp 0 (m - 1) c))
  rw [e i (by omega) (by omega), e c (by omega) hc]
  exact h i (by omega) c (by omega) hch

theorem HW.cut {w : World} {B hb n m : Nat} {l : Nat → Nat} {K : Nat → ByteArray} {A : Nat → Int} (h : HW w B hb n m l K A) :
    HW (w.setCell ⟨hb, 0, none⟩ (.slice (some ⟨B, 0, none⟩) (m - 1) n)) B hb n (m - 1) l K A := by
  obtain ⟨h1, h2, h3, h4, h5, h6⟩ := h
  refine ⟨h1.setOther (by show B ≠ hb; omega) _, ?_, fun i hi => ?_, h4, by omega, h6⟩
  · simp [World.setCell, Array.getElem?_modify, h2]
  · rw [blk_setCell_other _ _ _ _ (by show _ ≠ hb; omega)]
    exact h3 i hi

set_option maxHeartbeats 1000000 in
theorem hpop_any (w : World) (B hb n m : Nat) (l : Nat → Nat) (K : Nat → ByteArray) (A : Nat → Int) (h : HW w B hb n m l K A) (hn : n ≤ 1024) (hm : 0 < m) (hp : Hp K A 0 m l) :
    Calls Yba.prog 8 #[.iface 49 (.pointer (some ⟨hb, 0, none⟩))] w fun e w' => PopEnd K A B hb n m l w e w' := by
  have hl := mlen h.hcell
  have hs := mswap h.hcell
  have hmp := meth_pop
  have hmn : m ≤ n := h.2.2.2.2.1
  have H0 : Hid (HW w B hb n m l K A) := h
  have P0 : Hid (Hp K A 0 m l) := hp
  clear h hp
  go_enter Yba.func8, Yba.ntmps8
  go_wp2_with fail
  refine (len_any _ _ _ _).mono ?_
  rintro e w0 ⟨rfl, hw0⟩
  subst hw0
  clear hl
  go_wp2_with fail
  refine (swap_hw H0.out 0 (m - 1) _ _ (by omega) (by omega) (by omega) (by omega)).mono ?_
  rintro e w1 ⟨rfl, hw1, ho1⟩
  have H1 : Hid (HW w1 B hb n m (fun x => l (swp 0 (m - 1) x)) K A) := hw1
  have O1 : Hid (Only (· = B) w0 w1) := ho1
  clear hw1 ho1 hs
  go_wp2_with fail
  refine (down_any w1 B hb n m (fun x => l (swp 0 (m - 1) x)) K A 0 (m - 1) _ _ H1.out hn (by omega) (by omega) P0.out.swapped (by omega) (by omega)).mono ?_
  rintro e w2 ⟨b, l2, rfl, g1, g2, g3, g4⟩
  have el : l2 (m - 1) = l 0 := by
    rw [g3.past (Nat.le_refl _)]
    show l (swp 0 (m - 1) (m - 1)) = l 0
    unfold swp
    by_cases e : m - 1 = 0
    · rw [if_pos e, e]
    · rw [if_neg e, if_pos rfl]
  have E : Hid (l2 (m - 1) = l 0 ∧ HW w2 B hb n m l2 K A ∧ Hp K A 0 (m - 1) l2 ∧ Rr m l l2 ∧ Only (· = B) w0 w2) :=
    ⟨el, g1, g2, (Rr.swap l hm (by omega)).trans (g3.mono (by omega)), O1.out.trans g4⟩
  clear g1 g2 g3 g4 el
  go_wp2_with fail
  refine (pop_any hb B m n _ w2 hm (by omega) hmn E.out.2.1.hcell E.out.2.1.hfrozen (E.out.2.1.1.cell (by omega))).mono ?_
  rintro e w3 ⟨rfl, hw3⟩
  have G : Hid (PopEnd K A B hb n m l w0 (.returned (.iface 27 (.pointer (some ⟨B + 1 + l2 (m - 1), 0, none⟩)))) w3) := by
    obtain ⟨e1, e2, e3, e4, e5⟩ := E.out
    refine ⟨by rw [e1], l2, e1, by rw [hw3]; exact e2.cut, e3, e4, ?_⟩
    rw [hw3]
    exact (e5.mono (fun k hk => .inl hk)).trans (Only.setCell (S := fun k => k = B ∨ k = hb) _ _ _ (.inr rfl))
  clear hw3
  go_wp2
  go_ret
  exact G.out
end Go.Proofs.Ybulkcwbu
