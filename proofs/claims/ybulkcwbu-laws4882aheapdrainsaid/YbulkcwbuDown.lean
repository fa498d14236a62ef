import Derived.Test.YbulkcwbuSwap
namespace Go.Proofs.Ybulkcwbu
open Go.RowKit Go.Deep

theorem meth_len (a : Addr) (w : World) : (method 196 49 (.pointer (some a)) "Len").run Yba.prog w = ((loadVar 25 a) >>= fun r => pure (29, r)).run Yba.prog w := by kernel_rfl
theorem meth_less (a : Addr) (w : World) : (method 196 49 (.pointer (some a)) "Less").run Yba.prog w = ((loadVar 25 a) >>= fun r => pure (30, r)).run Yba.prog w := by kernel_rfl
theorem meth_swap (a : Addr) (w : World) : (method 196 49 (.pointer (some a)) "Swap").run Yba.prog w = ((loadVar 25 a) >>= fun r => pure (31, r)).run Yba.prog w := by kernel_rfl
theorem meth_pop (a : Addr) (w : World) : (method 196 49 (.pointer (some a)) "Pop").run Yba.prog w = .ok (6, .pointer (some a)) w := by kernel_rfl

theorem load25 (hb B m n : Nat) (w : World) (c : w.cell? ⟨hb, 0, none⟩ = some (.slice (some ⟨B, 0, none⟩) m n)) : (loadVar 25 ⟨hb, 0, none⟩).run Yba.prog w = .ok (.slice (some ⟨B, 0, none⟩) m n) w := by
  simp [go_sem, c]

theorem mlen {hb B m n : Nat} {w : World} (c : w.cell? ⟨hb, 0, none⟩ = some (.slice (some ⟨B, 0, none⟩) m n)) : (method 196 49 (.pointer (some ⟨hb, 0, none⟩)) "Len").run Yba.prog w = .ok (29, .slice (some ⟨B, 0, none⟩) m n) w := by
  rw [meth_len, Sem.run_bind, load25 hb B m n w c]; rfl
theorem mless {hb B m n : Nat} {w : World} (c : w.cell? ⟨hb, 0, none⟩ = some (.slice (some ⟨B, 0, none⟩) m n)) : (method 196 49 (.pointer (some ⟨hb, 0, none⟩)) "Less").run Yba.prog w = .ok (30, .slice (some ⟨B, 0, none⟩) m n) w := by
  rw [meth_less, Sem.run_bind, load25 hb B m n w c]; rfl
theorem mswap {hb B m n : Nat} {w : World} (c : w.cell? ⟨hb, 0, none⟩ = some (.slice (some ⟨B, 0, none⟩) m n)) : (method 196 49 (.pointer (some ⟨hb, 0, none⟩)) "Swap").run Yba.prog w = .ok (31, .slice (some ⟨B, 0, none⟩) m n) w := by
  rw [meth_swap, Sem.run_bind, load25 hb B m n w c]; rfl

set_option maxHeartbeats 400000 in
theorem len_any (a : Option Addr) (m n : Nat) (w : World) :
    Calls Yba.prog 29 #[.slice a m n] w fun e w' => e = .returned (.int .i64 m) ∧ w' = w := by
  go_enter Yba.func29, Yba.ntmps29
  go_wp2
  go_ret
  exact ⟨rfl, rfl⟩

/-- The heap in memory: the row at block B holds, at place i, the pointer to reader number 'l i'; the slice at block hb is the first m places. -/
def HW (w : World) (B hb n m : Nat) (l : Nat → Nat) (K : Nat → ByteArray) (A : Nat → Int) : Prop :=
  w.rowIs B 27 n (fun i => .pointer (some ⟨B + 1 + l i, 0, none⟩)) ∧ w.heap[hb]? = some (.cells #[.slice (some ⟨B, 0, none⟩) m n] 25 (0, 0)) ∧ Nodes w B n K A ∧ B + n < hb ∧ m ≤ n ∧ ∀ x, x < n → l x < n

section
variable {w w' : World} {B hb n m : Nat} {l : Nat → Nat} {K : Nat → ByteArray} {A : Nat → Int}

theorem HW.lt (h : HW w B hb n m l K A) : hb < w.heap.size := by
  obtain ⟨_, h2, _⟩ := h
  exact (Array.getElem?_eq_some_iff.1 h2).1

theorem HW.hcell (h : HW w B hb n m l K A) : w.cell? ⟨hb, 0, none⟩ = some (.slice (some ⟨B, 0, none⟩) m n) := by
  obtain ⟨_, h2, _⟩ := h
  simp [World.cell?, h2]

theorem HW.hfrozen (h : HW w B hb n m l K A) : w.frozen? ⟨hb, 0, none⟩ = false := by
  obtain ⟨_, h2, _⟩ := h
  simp [World.frozen?, h2]

theorem HW.of_blocks (h : HW w B hb n m l K A) (hb' : ∀ k, k < w.heap.size → w'.heap[k]? = w.heap[k]?) : HW w' B hb n m l K A := by
  have hlt := h.lt
  obtain ⟨h1, h2, h3, h4, h5, h6⟩ := h
  exact ⟨h1.of_block (hb' _ h1.lt), (hb' _ hlt).trans h2, fun i hi => (hb' _ (by omega)).trans (h3 i hi), h4, h5, h6⟩

theorem HW.below (h : HW w B hb n m l K A) (k : Below w.heap.size w w') : HW w' B hb n m l K A := h.of_blocks k.block

/-- Less, of places i and j. -/
theorem less_hw (h : HW w B hb n m l K A) (i j : Nat) (x y : Int) (hi : i < m) (hj : j < m) (hx : x = i) (hy : y = j) :
    Calls Yba.prog 30 #[.slice (some ⟨B, 0, none⟩) m n, .int .i64 x, .int .i64 y] w fun e w' => e = .returned (.bool (lessB K A (l i) (l j))) ∧ Below w.heap.size w w' := by
  subst hx; subst hy
  obtain ⟨h1, h2, h3, h4, h5, h6⟩ := h
  have ni := h3.cells (h6 i (by omega))
  have nj := h3.cells (h6 j (by omega))
  exact less_cells B m n i j _ _ _ _ _ _ w hi hj (h1.cell (by omega)) (h1.cell (by omega)) ni.2.1 nj.2.1 ni.2.2 nj.2.2

/-- Swap, of places i and j. -/
theorem swap_hw (h : HW w B hb n m l K A) (i j : Nat) (x y : Int) (hi : i < m) (hj : j < m) (hx : x = i) (hy : y = j) :
    Calls Yba.prog 31 #[.slice (some ⟨B, 0, none⟩) m n, .int .i64 x, .int .i64 y] w fun e w' => e = .returned (.tuple #[]) ∧ HW w' B hb n m (fun x => l (swp i j x)) K A ∧ Only (· = B) w w' := by
  subst hx; subst hy
  have hh := h
  obtain ⟨h1, h2, h3, h4, h5, h6⟩ := h
  have key : ∀ w' : World, (w'.Alike ((w.setCell ⟨B, i, none⟩ (.pointer (some ⟨B + 1 + l j, 0, none⟩))).setCell ⟨B, j, none⟩ (.pointer (some ⟨B + 1 + l i, 0, none⟩)))) → w'.tape = w.tape →
      HW w' B hb n m (fun x => l (swp i j x)) K A ∧ Only (· = B) w w' := by
    intro w' ha ht
    have ho : Only (· = B) w w' := ((Only.setCell (S := (· = B)) w ⟨B, i, none⟩ _ rfl).trans (Only.setCell (S := (· = B)) _ ⟨B, j, none⟩ _ rfl)).alike ha ht
    have hlt := hh.lt
    refine ⟨⟨?_, (ho.block _ hlt (by omega)).trans h2, fun k hk => (ho.block _ (by omega) (by omega)).trans (h3 k hk), h4, h5, fun x hx => ?_⟩, ho⟩
    · refine World.rowIs.of_block (((h1.set i _).set j _).congr (fun x _ => ?_)) (by rw [ha.1])
      show (if x = j then _ else if x = i then _ else _) = Value.pointer (some ⟨B + 1 + l (swp i j x), 0, none⟩)
      unfold swp
      by_cases e : x = j
      · subst e
        rw [if_pos rfl]
        by_cases e2 : x = i
        · rw [if_pos e2, e2]
        · rw [if_neg e2, if_pos rfl]
      · rw [if_neg e]
        by_cases e2 : x = i
        · rw [if_pos e2, if_pos e2]
        · rw [if_neg e2, if_neg e2, if_neg e]
    · show l (swp i j x) < n
      apply h6
      unfold swp
      repeat' split
      all_goals omega
  by_cases e : i = j
  · subst e
    refine (swap_eq B m n i _ w hi (h1.cell (by omega)) (h1.frozen i)).mono ?_
    rintro e w' ⟨rfl, ha, ht⟩
    exact ⟨rfl, key w' ha ht⟩
  · refine (swap_ne B m n i j _ _ w hi hj e (h1.cell (by omega)) (h1.cell (by omega)) (h1.frozen i) (h1.frozen j)).mono ?_
    rintro e w' ⟨rfl, ha, ht⟩
    exact ⟨rfl, key w' ha ht⟩
end
end Go.Proofs.Ybulkcwbu
