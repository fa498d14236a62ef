import Derived.Test.YbulkcwbuLess
namespace Go.Proofs.Ybulkcwbu
open Go.RowKit Go.Deep

set_option maxHeartbeats 400000 in
theorem swap_ne (B m n i j : Nat) (p q : Option Addr) (w : World) (hi : i < m) (hj : j < m) (hne : i ≠ j)
    (c1 : w.cell? ⟨B, i, none⟩ = some (.pointer p)) (c2 : w.cell? ⟨B, j, none⟩ = some (.pointer q)) (f1 : w.frozen? ⟨B, i, none⟩ = false) (f2 : w.frozen? ⟨B, j, none⟩ = false) :
    Calls Yba.prog 31 #[.slice (some ⟨B, 0, none⟩) m n, .int .i64 i, .int .i64 j] w fun e w' => e = .returned (.tuple #[]) ∧ w'.Alike ((w.setCell ⟨B, i, none⟩ (.pointer q)).setCell ⟨B, j, none⟩ (.pointer p)) ∧ w'.tape = w.tape := by
  have hi' : (i : Int) < (m : Int) := by omega
  have hj' : (j : Int) < (m : Int) := by omega
  have hi0 : (0 : Int) ≤ (i : Int) := by omega
  have hj0 : (0 : Int) ≤ (j : Int) := by omega
  have hne2 : j ≠ i := fun h => hne h.symm
  go_enter Yba.func31, Yba.ntmps31
  go_wp2
  go_region
  go_end0
  exact ⟨rfl, ⟨rfl, rfl, rfl⟩, rfl⟩

set_option maxHeartbeats 400000 in
theorem swap_eq (B m n i : Nat) (p : Option Addr) (w : World) (hi : i < m)
    (c1 : w.cell? ⟨B, i, none⟩ = some (.pointer p)) (f1 : w.frozen? ⟨B, i, none⟩ = false) :
    Calls Yba.prog 31 #[.slice (some ⟨B, 0, none⟩) m n, .int .i64 i, .int .i64 i] w fun e w' => e = .returned (.tuple #[]) ∧ w'.Alike ((w.setCell ⟨B, i, none⟩ (.pointer p)).setCell ⟨B, i, none⟩ (.pointer p)) ∧ w'.tape = w.tape := by
  have hi' : (i : Int) < (m : Int) := by omega
  have hi0 : (0 : Int) ≤ (i : Int) := by omega
  go_enter Yba.func31, Yba.ntmps31
  go_wp2
  go_region
  go_end0
  exact ⟨rfl, ⟨rfl, rfl, rfl⟩, rfl⟩

/-- The world has new blocks; of the old ones those that S names may have turned, no other. -/
structure Only (S : Nat → Prop) (w w' : World) : Prop where
  os : w'.os = w.os
  tape : w'.tape = w.tape
  output : w'.output = w.output
  size : w.heap.size ≤ w'.heap.size
  block : ∀ k, k < w.heap.size → ¬ S k → w'.heap[k]? = w.heap[k]?

theorem Only.refl (S : Nat → Prop) (w : World) : Only S w w := ⟨rfl, rfl, rfl, Nat.le_refl _, fun _ _ _ => rfl⟩
theorem Only.trans {S : Nat → Prop} {a b c : World} (h : Only S a b) (k : Only S b c) : Only S a c :=
  ⟨k.os.trans h.os, k.tape.trans h.tape, k.output.trans h.output, Nat.le_trans h.size k.size, fun i hi hs => (k.block i (Nat.lt_of_lt_of_le hi h.size) hs).trans (h.block i hi hs)⟩
theorem Only.mono {S T : Nat → Prop} {a b : World} (h : Only S a b) (hST : ∀ k, S k → T k) : Only T a b := ⟨h.os, h.tape, h.output, h.size, fun k hk ht => h.block k hk (fun hs => ht (hST k hs))⟩
theorem Only.of_below {S : Nat → Prop} {a b : World} (h : Below a.heap.size a b) : Only S a b := ⟨h.os, h.tape, h.output, h.size, fun k hk _ => h.block k hk⟩
theorem Only.setCell {S : Nat → Prop} (w : World) (p : Addr) (v : Value) (hp : S p.block) : Only S w (w.setCell p v) :=
  ⟨rfl, rfl, rfl, by simp, fun k _ hs => Below.heap_setCell _ _ _ _ (fun e => hs (e ▸ hp))⟩
theorem Only.alike {S : Nat → Prop} {w a b : World} (h : Only S w a) (k : b.Alike a) (ht : b.tape = w.tape) : Only S w b :=
  ⟨k.2.1.trans h.os, ht, k.2.2.trans h.output, by rw [k.1]; exact h.size, fun i hi hs => by rw [k.1]; exact h.block i hi hs⟩
end Go.Proofs.Ybulkcwbu
