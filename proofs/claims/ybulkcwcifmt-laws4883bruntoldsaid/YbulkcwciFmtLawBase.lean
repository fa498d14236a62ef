import Derived.Test.YbulkcwciFmtRun
import Derived.Test.YbulkcwciFmtSmall
namespace Go.Proofs.YbulkcwciFmt
open Go.RowKit Go.Deep

/-! ### What is left of the law's body behind n statements -/
def dropSeq : Nat → Code → Option Code
  | 0, c => some c
  | n + 1, .seq _ b => dropSeq n b
  | _ + 1, _ => none
def tailO (n : Nat) (f : Func) : Option Code := match f.body with | some c => dropSeq n c | none => none
def tailC (n : Nat) (f : Func) : Code := (tailO n f).getD .skip
theorem wp_tail {P : Program} {Q : Exit → Act → World → Prop} {a : Act} {w : World} {n : Nat} {f : Func} {c : Code} (h : tailO n f = some c) (k : c.wp P Q a w) : (tailC n f).wp P Q a w := by unfold tailC; rw [h]; exact k
theorem dropSeq_next {x y : Code} : ∀ (n : Nat) (c : Code), dropSeq n c = some (.seq x y) → dropSeq (n + 1) c = some y
  | 0, c, h => by
    simp only [dropSeq, Option.some.injEq] at h
    subst h
    rfl
  | n + 1, c, h => by
    cases c with
    | seq a b => exact dropSeq_next n b h
    | _ => cases h
/-- One statement of the body; behind it: the next tail. -/
theorem wp_tail_k {P : Program} {Q : Exit → Act → World → Prop} {a : Act} {w : World} {n : Nat} {f : Func} {x y : Code} (h : tailO n f = some (.seq x y)) (k : ∀ K : Act → World → Prop, (∀ a w, (tailC (n + 1) f).wp P Q a w → K a w) → x.wp P (Exit.then K Q) a w) : (tailC n f).wp P Q a w := by
  have h2 : tailO (n + 1) f = some y := by
    unfold tailO at h ⊢
    cases hb : f.body with
    | none => rw [hb] at h; cases h
    | some c => rw [hb] at h; exact dropSeq_next n c h
  refine wp_tail h (wp_seq_k fun K hK => k K fun a w hh => hK a w ?_)
  unfold tailC at hh
  rw [h2] at hh
  exact hh

/-! ### The law's arguments -/
structure Ed where
  op : Nat
  oth : List Nat
  tg : Int
  keep : Bool
def Ed.d : Ed := ⟨0, [], 0, false⟩
def OthAt (w : World) (v : Value) (l : List Nat) : Prop := ∃ a c, v = .slice a l.length c ∧ (∀ m, m < l.length → l.getD m 0 < 256) ∧ Elems w a l.length (fun m => .int .u8 (l.getD m 0 : Nat))
def EdAt (w : World) (b o : Nat) (d : Ed) : Prop :=
  d.op < 256 ∧ w.cell? ⟨b, o, none⟩ = some (.int .u8 d.op) ∧ (∃ ov, w.cell? ⟨b, o + 1, none⟩ = some ov ∧ OthAt w ov d.oth) ∧ w.cell? ⟨b, o + 2, none⟩ = some (.int .i64 d.tg) ∧ w.cell? ⟨b, o + 3, none⟩ = some (.bool d.keep)
def RowAt (w : World) (v : Value) (r : List Ed) : Prop :=
  ∃ a c, v = .slice a r.length c ∧ (0 < r.length → ∃ b o, a = some ⟨b, o, none⟩ ∧ b < w.heap.size ∧ ∀ j, j < r.length → EdAt w b (o + j * 4) (r.getD j Ed.d))
def LocsAt (w : World) (v : Value) (L : List (List Ed)) : Prop :=
  ∃ a c, v = .slice a L.length c ∧ (0 < L.length → ∃ b o, a = some ⟨b, o, none⟩ ∧ b < w.heap.size ∧ ∀ i, i < L.length → ∃ rv, w.cell? ⟨b, o + i, none⟩ = some rv ∧ RowAt w rv (L.getD i []))

theorem Elems.below {w w' : World} {a : Option Addr} {n : Nat} {f : Nat → Value} (h : Elems w a n f) (b : Below w.heap.size w w') : Elems w' a n f := fun h0 => by
  obtain ⟨x, o, e, hb, hc⟩ := h h0
  exact ⟨x, o, e, Nat.lt_of_lt_of_le hb b.size, fun j hj => (b.cell (p := ⟨x, o + j, none⟩) hb).trans (hc j hj)⟩
theorem OthAt.below {w w' : World} {v : Value} {l : List Nat} (h : OthAt w v l) (b : Below w.heap.size w w') : OthAt w' v l := by
  obtain ⟨a, c, e, h1, h2⟩ := h
  exact ⟨a, c, e, h1, h2.below b⟩
theorem EdAt.below {w w' : World} {x o : Nat} {d : Ed} (h : EdAt w x o d) (hx : x < w.heap.size) (b : Below w.heap.size w w') : EdAt w' x o d := by
  obtain ⟨h1, h2, ⟨ov, h3, h4⟩, h5, h6⟩ := h
  have hc : ∀ j v, w.cell? ⟨x, j, none⟩ = some v → w'.cell? ⟨x, j, none⟩ = some v := fun j v hv => (b.cell (p := ⟨x, j, none⟩) hx).trans hv
  exact ⟨h1, hc _ _ h2, ⟨ov, hc _ _ h3, h4.below b⟩, hc _ _ h5, hc _ _ h6⟩
theorem RowAt.below {w w' : World} {v : Value} {r : List Ed} (h : RowAt w v r) (b : Below w.heap.size w w') : RowAt w' v r := by
  obtain ⟨a, c, e, h1⟩ := h
  refine ⟨a, c, e, fun h0 => ?_⟩
  obtain ⟨x, o, e2, hb, hc⟩ := h1 h0
  exact ⟨x, o, e2, Nat.lt_of_lt_of_le hb b.size, fun j hj => (hc j hj).below hb b⟩
theorem LocsAt.below {w w' : World} {v : Value} {L : List (List Ed)} (h : LocsAt w v L) (b : Below w.heap.size w w') : LocsAt w' v L := by
  obtain ⟨a, c, e, h1⟩ := h
  refine ⟨a, c, e, fun h0 => ?_⟩
  obtain ⟨x, o, e2, hb, hc⟩ := h1 h0
  refine ⟨x, o, e2, Nat.lt_of_lt_of_le hb b.size, fun i hi => ?_⟩
  obtain ⟨rv, h3, h4⟩ := hc i hi
  exact ⟨rv, (b.cell (p := ⟨x, o + i, none⟩) hb).trans h3, h4.below b⟩

/-- The edges that the law builds of a row. -/
def eds (r : List Ed) : Eds := ⟨r.length, fun j => opOf (r.getD j Ed.d).op, fun j => (r.getD j Ed.d).tg, fun j => (r.getD j Ed.d).keep, fun j => (r.getD j Ed.d).oth.map (· % r.length)⟩

/-- What the law answers, and that it turns nothing that was there. -/
def LawEnd (w0 : World) (e : Ending) (w' : World) : Prop := e = .returned (.bool true) ∧ Below w0.heap.size w0 w'

def tkn (cs : List Bool) (i : Nat) : Bool := (List.range i).any (csAt cs)
theorem tkn_succ (cs : List Bool) (i : Nat) : tkn cs (i + 1) = (tkn cs i || csAt cs i) := by simp [tkn, List.range_succ]
theorem tkn_all (cs : List Bool) : tkn cs cs.length = !(cs.all fun b => !b) := by
  rw [← all_range cs, ← List.not_any_eq_all_not, Bool.not_not]
  rfl
end Go.Proofs.YbulkcwciFmt
