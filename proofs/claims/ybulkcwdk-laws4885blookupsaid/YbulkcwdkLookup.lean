import Derived.Test.YbulkcwdkHelper
namespace Go.Proofs.Ybulkcwdk
open Go.RowKit Go.Deep
open Go.Maps (has IsMap)
open Go.WideMaps (keyOf_string_mk)

/-- A slice that came in: n elements, element j holds 'f j'. -/
def Elems (w : World) (a : Option Addr) (n : Nat) (f : Nat → Value) : Prop :=
  0 < n → ∃ b o, a = some ⟨b, o, none⟩ ∧ b < w.heap.size ∧ ∀ j, j < n → w.cell? ⟨b, o + j, none⟩ = some (f j)

theorem idx22 {w : World} {na : Option Addr} {n nc : Nat} {f : Nat → Value} (h : Elems w na n f) {i : Nat} (hi : i < n) :
    ∃ b o, (∀ w' : World, (Instr.indexAt 22 (.slice na n nc) (.int .i64 (i : Int))).run Yba.prog w' = .ok (.pointer (some ⟨b, o + i, none⟩)) w') ∧ b < w.heap.size ∧ w.cell? ⟨b, o + i, none⟩ = some (f i) := by
  obtain ⟨b, o, rfl, hb, hc⟩ := h (by omega)
  refine ⟨b, o, fun w' => ?_, hb, hc i hi⟩
  have hi' : (i : Int) < (n : Int) := by omega
  simp [go_sem, hi', Yba.underlying22]

theorem idx23 {w : World} {na : Option Addr} {n nc : Nat} {f : Nat → Value} (h : Elems w na n f) {i : Nat} (hi : i < n) :
    ∃ b o, (∀ w' : World, (Instr.indexAt 23 (.slice na n nc) (.int .i64 (i : Int))).run Yba.prog w' = .ok (.pointer (some ⟨b, o + i, none⟩)) w') ∧ b < w.heap.size ∧ w.cell? ⟨b, o + i, none⟩ = some (f i) := by
  obtain ⟨b, o, rfl, hb, hc⟩ := h (by omega)
  refine ⟨b, o, fun w' => ?_, hb, hc i hi⟩
  have hi' : (i : Int) < (n : Int) := by omega
  simp [go_sem, hi', Yba.underlying23]

theorem ky_ne {a b : ByteArray} (h : a ≠ b) : ky a ≠ ky b := fun e => h (WideShapes.bytes_inj (by simpa [ky] using e))
theorem ky_lit (s : ByteArray) : WideAt.IsKeyLit (ky s) := by simp [WideAt.IsKeyLit]

/-- The filling loop, behind k rounds. -/
def FRel (w : World) (bm : Nat) (K : Nat → ByteArray) (q : ByteArray) (k : Nat) (want : Bool) (wr : World) : Prop :=
  ∃ D, Owns wr bm k D ∧ valAt D q want ∧ (∀ i, i < k → has D (ky (K i)) = true) ∧ Below w.heap.size w wr ∧ w.heap.size ≤ bm

theorem FRel.start (w : World) (K : Nat → ByteArray) (q : ByteArray) : FRel w w.heap.size K q 0 false (w.alloc (.map #[] 0)) :=
  ⟨.map [], World.ownsMap_made w _ _ _, rfl, fun i hi => absurd hi (by omega), (Below.refl _ _).alloc (Nat.le_refl _) _, Nat.le_refl _⟩

/-- One store. -/
theorem FRel.step {w wr : World} {bm k : Nat} {K : Nat → ByteArray} {q : ByteArray} {want : Bool} (h : FRel w bm K q k want wr) (hk : k ≤ 1024) (hs : (K k).size ≤ maxLen) (v : Bool) :
    ∃ w', (Instr.mapUpdate 24 (.map (some bm)) (.string (K k)) (.bool v)).run Yba.prog wr = .ok () w' ∧ (∀ b o, b < w.heap.size → w'.cell? ⟨b, o, none⟩ = wr.cell? ⟨b, o, none⟩) ∧
      (K k = q → FRel w bm K q (k + 1) v w') ∧ (K k ≠ q → FRel w bm K q (k + 1) want w') := by
  obtain ⟨D, h1, h2, h3, h4, h5⟩ := h
  have hlt := h1.lt
  obtain ⟨w', hrun, ho, hg⟩ := h1.update law9 Yba.underlying24 (by unfold maxLen; omega) (keyOf_string_mk Yba.underlying9 hs) (plainElem_bool Yba.underlying4 v)
  have him : IsMap D := h1.isMap
  have hb : Below w.heap.size w w' := h4.grown hg h4.size (fun k hk => by cases hk; exact h5)
  have hhas : ∀ i, i < k + 1 → has (D.put (ky (K k)) (.lit (.bool v))) (ky (K i)) = true := by
    intro i hi
    by_cases e : K i = K k
    · rw [e]; exact Maps.has_put_same him (ky_lit _) _
    · rw [Maps.has_put_other (ky_ne e)]
      have : i ≠ k := fun e2 => e (by rw [e2])
      exact h3 i (by omega)
  refine ⟨w', hrun, fun b o hbo => ?_, fun e => ⟨_, ho, ?_, hhas, hb, h5⟩, fun e => ⟨_, ho, ?_, hhas, hb, h5⟩⟩
  · rw [hb.cell (p := ⟨b, o, none⟩) hbo, h4.cell (p := ⟨b, o, none⟩) hbo]
  · subst e; exact Maps.atKey_put_same him (ky_lit _) _ _
  · show (D.put (ky (K k)) (.lit (.bool v))).atKey (ky q) _ = _
    rw [Maps.atKey_put_other (ky_ne (fun h => e h.symm))]; exact h2
end Go.Proofs.Ybulkcwdk
