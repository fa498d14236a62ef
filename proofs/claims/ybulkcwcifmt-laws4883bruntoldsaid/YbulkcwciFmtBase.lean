import Derived.Test.YbulkcwciFmtProg
import Derived.WalkKit
import Derived.WalkSpells
import Derived.WalkLawsBesides
import Derived.Handy
import Derived.LaidEql
import Derived.Stop.CallBack
import Derived.Stop.IfaceNil
import Derived.Stop.Asserts
import Derived.RowKitTokens
import GoSem.ClaimData
import Derived.Deep.QuietTactic
import Derived.BigQuiet
import Derived.Deep.OwnRows
import Derived.OwnWalk
import Derived.OneCell
import Derived.Deep.AppendLies
import Derived.Deep.RegionHeld3
import Derived.Deep.DrawnRows
import Derived.Deep.DeepCutAuto
import Derived.Deep.CutBlock
namespace Go.Proofs.YbulkcwciFmt
open Go.RowKit Go.Deep

/-! ### The step's memory: the law's own Stepper (block xb), the Walker (block wb), their three growing rows -/
structure Cfg where
  w0 : World
  xb : Nat
  wb : Nat
  gb : Nat
  gs : Value
  er : Value
  fail : Nat

def ints (l : List Int) : List Value := l.map (Value.int .i64)
def bools (l : List Bool) : List Value := l.map Value.bool
theorem ints_append (a b : List Int) : ints (a ++ b) = ints a ++ ints b := by simp [ints]
theorem bools_append (a b : List Bool) : bools (a ++ b) = bools a ++ bools b := by simp [bools]

/-- All but x's and w's blocks are as they were; new blocks may lie behind. -/
def Fr (c : Cfg) (a b : World) : Prop :=
  b.os = a.os ∧ b.tape = a.tape ∧ b.output = a.output ∧ a.heap.size ≤ b.heap.size ∧ ∀ i, i < a.heap.size → i ≠ c.xb → i ≠ c.wb → b.heap[i]? = a.heap[i]?
def Apart (a b : Value) : Prop := ∀ i, a.ownBlock = some i → b.ownBlock ≠ some i
def XB (c : Cfg) (k ends : Nat) (lv : Value) (w : World) : Prop := w.heap[c.xb]? = some (.cells #[c.gs, .int .i64 k, .int .i64 c.fail, .int .i64 ends, lv, c.er] 48 (0, 0))
def WB (c : Cfg) (cv ov : Value) (w : World) : Prop :=
  w.heap[c.wb]? = some (.cells #[.iface 46 (.pointer (some ⟨c.xb, 0, none⟩)), .pointer (some ⟨c.gb, 0, none⟩), cv, ov, .slice none 0 0, .slice none 0 0, .int .i64 0, .slice none 0 0] 69 (0, 0))
def StL (c : Cfg) (k ends : Nat) (log : List Int) (lv cv : Value) (cs : List Bool) (ov : Value) (os : List Bool) (w : World) : Prop :=
  Fr c c.w0 w ∧ (c.xb < c.w0.heap.size ∧ c.wb < c.w0.heap.size ∧ c.xb ≠ c.wb) ∧ XB c k ends lv w ∧ WB c cv ov w ∧
    w.ownsRow c.w0.heap.size 3 1 lv log.length (ints log) ∧ w.ownsRow c.w0.heap.size 4 1 cv cs.length (bools cs) ∧ w.ownsRow c.w0.heap.size 4 1 ov os.length (bools os) ∧ Apart cv ov
def St (c : Cfg) (k ends : Nat) (log : List Int) (cv : Value) (cs : List Bool) (ov : Value) (os : List Bool) (w : World) : Prop := ∃ lv, StL c k ends log lv cv cs ov os w

theorem Fr.trans {c : Cfg} {a b d : World} (h : Fr c a b) (k : Fr c b d) : Fr c a d :=
  ⟨k.1.trans h.1, k.2.1.trans h.2.1, k.2.2.1.trans h.2.2.1, Nat.le_trans h.2.2.2.1 k.2.2.2.1, fun i hi hx hw => (k.2.2.2.2 i (Nat.lt_of_lt_of_le hi h.2.2.2.1) hx hw).trans (h.2.2.2.2 i hi hx hw)⟩
theorem Fr.of_below {c : Cfg} {a b : World} (h : Below a.heap.size a b) : Fr c a b := ⟨h.os, h.tape, h.output, h.size, fun i hi _ _ => h.block i hi⟩
theorem Fr.setX (c : Cfg) (a : World) (j : Nat) (v : Value) : Fr c a (a.setCell ⟨c.xb, j, none⟩ v) := ⟨rfl, rfl, rfl, by simp, fun i _ hx _ => Below.heap_setCell _ _ _ _ hx⟩
theorem Fr.setW (c : Cfg) (a : World) (j : Nat) (v : Value) : Fr c a (a.setCell ⟨c.wb, j, none⟩ v) := ⟨rfl, rfl, rfl, by simp, fun i _ _ hw => Below.heap_setCell _ _ _ _ hw⟩

/-- An owned row behind a move that leaves its block. -/
theorem own_of {w w' : World} {base e n : Nat} {v : Value} {xs : List Value} (h : w.ownsRow base e 1 v n xs) (hb : ∀ i, base ≤ i → i < w.heap.size → v.ownBlock = some i → w'.heap[i]? = w.heap[i]?) : w'.ownsRow base e 1 v n xs := by
  refine ⟨h.1, ?_⟩
  rcases h.2 with h0 | ⟨g, cap, cur, hv, hg, hh, r⟩
  · exact .inl h0
  · have hlt : g < w.heap.size := by
      rcases Nat.lt_or_ge g w.heap.size with h' | h'
      · exact h'
      · rw [Array.getElem?_eq_none h'] at hh; cases hh
    exact .inr ⟨g, cap, cur, hv, hg, (hb g hg hlt (by rw [hv]; rfl)).trans hh, r⟩

/-- The state behind a move: x's and w's blocks said anew, all others as they were. -/
theorem StL.move {c : Cfg} {k ends k' ends' : Nat} {log : List Int} {lv cv ov : Value} {cs os : List Bool} {w w' : World} (h : StL c k ends log lv cv cs ov os w) (f : Fr c w w') (hx : XB c k' ends' lv w') (hw : WB c cv ov w') : StL c k' ends' log lv cv cs ov os w' := by
  obtain ⟨h1, h2, -, -, h5, h6, h7, h8⟩ := h
  have key : ∀ (e n : Nat) (v : Value) (xs : List Value), w.ownsRow c.w0.heap.size e 1 v n xs → w'.ownsRow c.w0.heap.size e 1 v n xs := fun e n v xs hv =>
    own_of hv fun i hb hi _ => f.2.2.2.2 i hi (by omega) (by omega)
  exact ⟨h1.trans f, h2, hx, hw, key _ _ _ _ h5, key _ _ _ _ h6, key _ _ _ _ h7, h8⟩
theorem StL.lt {c : Cfg} {k ends : Nat} {log : List Int} {lv cv ov : Value} {cs os : List Bool} {w : World} (h : StL c k ends log lv cv cs ov os w) : c.xb < w.heap.size ∧ c.wb < w.heap.size :=
  ⟨Nat.lt_of_lt_of_le h.2.1.1 h.1.2.2.2.1, Nat.lt_of_lt_of_le h.2.1.2.1 h.1.2.2.2.1⟩
theorem StL.below {c : Cfg} {k ends : Nat} {log : List Int} {lv cv ov : Value} {cs os : List Bool} {w w' : World} (h : StL c k ends log lv cv cs ov os w) (b : Below w.heap.size w w') : StL c k ends log lv cv cs ov os w' :=
  h.move (Fr.of_below b) ((b.block _ h.lt.1).trans h.2.2.1) ((b.block _ h.lt.2).trans h.2.2.2.1)
theorem StL.same {c : Cfg} {k ends : Nat} {log : List Int} {lv cv ov : Value} {cs os : List Bool} {w w' : World} (h : StL c k ends log lv cv cs ov os w) (hh : w'.heap = w.heap) (ho : w'.os = w.os) (ht : w'.tape = w.tape) (hp : w'.output = w.output) : StL c k ends log lv cv cs ov os w' :=
  h.below ⟨ho, ht, hp, by rw [hh]; exact Nat.le_refl _, fun i _ => by rw [hh]⟩
theorem St.below {c : Cfg} {k ends : Nat} {log : List Int} {cv ov : Value} {cs os : List Bool} {w w' : World} (h : St c k ends log cv cs ov os w) (b : Below w.heap.size w w') : St c k ends log cv cs ov os w' := by
  obtain ⟨lv, h⟩ := h
  exact ⟨lv, h.below b⟩
theorem set_block {w : World} {b j : Nat} {cs : Array Value} {t : TypeId} {v : Value} (h : w.heap[b]? = some (.cells cs t (0, 0))) : (w.setCell ⟨b, j, none⟩ v).heap[b]? = some (.cells (cs.setIfInBounds j v) t (0, 0)) := heap_setCell_same w b j cs t v h
theorem StL.setK {c : Cfg} {k ends k' : Nat} {log : List Int} {lv cv ov : Value} {cs os : List Bool} {w : World} (h : StL c k ends log lv cv cs ov os w) : StL c k' ends log lv cv cs ov os (w.setCell ⟨c.xb, 1, none⟩ (.int .i64 k')) :=
  h.move (Fr.setX c w 1 _) ((set_block h.2.2.1).trans rfl) ((Below.heap_setCell _ _ _ _ (Ne.symm h.2.1.2.2)).trans h.2.2.2.1)
theorem StL.setEnds {c : Cfg} {k ends k' : Nat} {log : List Int} {lv cv ov : Value} {cs os : List Bool} {w : World} (h : StL c k ends log lv cv cs ov os w) : StL c k k' log lv cv cs ov os (w.setCell ⟨c.xb, 3, none⟩ (.int .i64 k')) :=
  h.move (Fr.setX c w 3 _) ((set_block h.2.2.1).trans rfl) ((Below.heap_setCell _ _ _ _ (Ne.symm h.2.1.2.2)).trans h.2.2.2.1)

theorem own_block_ne {w : World} {base e e' n m : Nat} {v v' : Value} {xs ys : List Value} (h : w.ownsRow base e 1 v n xs) (h' : w.ownsRow base e' 1 v' m ys) (hne : e ≠ e') : ∀ i, v.ownBlock = some i → v'.ownBlock ≠ some i := by
  intro i hi hi'
  rcases h.2 with ⟨rfl, _⟩ | ⟨g, cap, cur, rfl, _, hg, _⟩
  · cases hi
  · rcases h'.2 with ⟨rfl, _⟩ | ⟨g', cap', cur', rfl, _, hg', _⟩
    · cases hi'
    · simp only [Value.ownBlock, Option.some.injEq] at hi hi'
      subst hi
      subst hi'
      rw [hg] at hg'
      simp only [Option.some.injEq, Obj.cells.injEq] at hg'
      exact hne hg'.2.1

theorem StL.alloc {c : Cfg} {k ends : Nat} {log : List Int} {lv cv ov : Value} {cs os : List Bool} {w : World} (h : StL c k ends log lv cv cs ov os w) (o : Obj) : StL c k ends log lv cv cs ov os (w.alloc o) := h.below ((Below.refl _ _).alloc (Nat.le_refl _) o)
theorem StL.grown_xb {c : Cfg} {k ends : Nat} {log : List Int} {lv cv ov : Value} {cs os : List Bool} {w w' : World} (h : StL c k ends log lv cv cs ov os w) (g : w.grownBy w' lv.ownBlock) : XB c k ends lv w' :=
  (g.block _ h.lt.1 (fun e => by have := (h.2.2.2.2.1).lt _ e.symm; have := h.2.1.1; omega)).trans h.2.2.1

/-- The log has grown; x.log is stored anew. -/
theorem StL.setLog {c : Cfg} {k ends : Nat} {log news : List Int} {lv lv' cv ov : Value} {cs os : List Bool} {w w' : World} (h : StL c k ends log lv cv cs ov os w) (g : w.grownBy w' lv.ownBlock) (hown : w'.ownsRow c.w0.heap.size 3 1 lv' (log.length + news.length) (ints log ++ ints news)) :
    StL c k ends (log ++ news) lv' cv cs ov os (w'.setCell ⟨c.xb, 4, none⟩ lv') := by
  have lt := h.lt
  obtain ⟨h1, h2, h3, h4, h5, h6, h7, h8⟩ := h
  have old : ∀ i, i < c.w0.heap.size → lv.ownBlock ≠ some i := fun i hi e => by have := h5.lt i e; omega
  have f : Fr c w w' → True := fun _ => trivial
  have hx : w'.heap[c.xb]? = w.heap[c.xb]? := g.block _ lt.1 (fun e => old _ h2.1 e.symm)
  have hw : w'.heap[c.wb]? = w.heap[c.wb]? := g.block _ lt.2 (fun e => old _ h2.2.1 e.symm)
  have key : ∀ (n : Nat) (v : Value) (xs : List Value), w.ownsRow c.w0.heap.size 4 1 v n xs → (w'.setCell ⟨c.xb, 4, none⟩ lv').ownsRow c.w0.heap.size 4 1 v n xs := fun n v xs hv =>
    own_of hv fun i hb hi he => (Below.heap_setCell _ _ _ _ (by show i ≠ c.xb; omega)).trans (g.block i hi (fun e => own_block_ne hv h5 (by decide) i he e.symm))
  refine ⟨⟨g.os.trans h1.1, g.tape.trans h1.2.1, g.output.trans h1.2.2.1, by simpa using Nat.le_trans h1.2.2.2.1 g.size, fun i hi hx' hw' => ?_⟩, h2, (set_block (hx.trans h3)).trans rfl, (Below.heap_setCell _ _ _ _ (Ne.symm h2.2.2)).trans (hw.trans h4), ?_, key _ _ _ h6, key _ _ _ h7, h8⟩
  · exact (Below.heap_setCell _ _ _ _ hx').trans ((g.block i (Nat.lt_of_lt_of_le hi h1.2.2.2.1) (fun e => old i hi e.symm)).trans (h1.2.2.2.2 i hi hx' hw'))
  · rw [List.length_append, ints_append]
    exact own_of hown fun i hb hi _ => Below.heap_setCell _ _ _ _ (by show i ≠ c.xb; have := h2.1; omega)

/-! ### cells -/
theorem cell_of {w : World} {b : Nat} {cs : Array Value} {t : TypeId} (h : w.heap[b]? = some (.cells cs t (0, 0))) (j : Nat) : w.cell? ⟨b, j, none⟩ = cs[j]? := cell_of_row w b j cs t (0, 0) h
theorem free_of {w : World} {b : Nat} {cs : Array Value} {t : TypeId} (h : w.heap[b]? = some (.cells cs t (0, 0))) (j : Nat) : w.frozen? ⟨b, j, none⟩ = false := by
  simp [World.frozen?, h]
end Go.Proofs.YbulkcwciFmt
