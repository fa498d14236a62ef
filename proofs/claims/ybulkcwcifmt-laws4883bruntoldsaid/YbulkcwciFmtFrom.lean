import Derived.Test.YbulkcwciFmtRun
import Derived.Defers
namespace Go.Proofs.YbulkcwciFmt
open Go.RowKit Go.Deep Go.Extern.Stop Go.Stop Go.Extern
attribute [local go_sem ↓] Go.wp_at_zero Go.wp_at_succ

/-- w.conds is stored anew. -/
theorem StL.recv {c : Cfg} {k ends : Nat} {log : List Int} {lv cv cv' ov : Value} {cs cs' os : List Bool} {w : World} (h : StL c k ends log lv cv cs ov os w) (hown : w.ownsRow c.w0.heap.size 4 1 cv' cs'.length (bools cs')) (hap : Apart cv' ov) :
    StL c k ends log lv cv' cs' ov os (w.setCell ⟨c.wb, 2, none⟩ cv') := by
  obtain ⟨h1, h2, h3, h4, h5, h6, h7, h8⟩ := h
  have key : ∀ (e n : Nat) (v : Value) (xs : List Value), w.ownsRow c.w0.heap.size e 1 v n xs → (w.setCell ⟨c.wb, 2, none⟩ cv').ownsRow c.w0.heap.size e 1 v n xs := fun e n v xs hv =>
    own_of hv fun i hb hi _ => Below.heap_setCell _ _ _ _ (by show i ≠ c.wb; have := h2.2.1; omega)
  exact ⟨h1.trans (Fr.setW c w 2 _), h2, (Below.heap_setCell _ _ _ _ h2.2.2).trans h3, (set_block h4).trans rfl, key _ _ _ _ h5, key _ _ _ _ hown, key _ _ _ _ h7, hap⟩

set_option maxRecDepth 100000 in
theorem forget_d {c : Cfg} {k ends : Nat} {log : List Int} {cv ov : Value} {cs os : List Bool} {w : World} (u : FrameMode) (h : St c k ends log cv cs ov os w) :
    CallsD Ybaf.prog 17 #[.pointer (some ⟨c.wb, 0, none⟩), .int .i64 0] u w fun e u' w' => u' = u ∧ (e = .returned (.tuple #[]) ∧ ∃ cv', St c k ends log cv' [] ov os w') := by
  obtain ⟨lv, hs⟩ := h
  have r2 : w.cell? ⟨c.wb, 2, none⟩ = some cv := by simpa using cell_of hs.2.2.2.1 2
  have t2 := free_of hs.2.2.2.1 2
  have HL : Hid (StL c k ends log lv cv cs ov os w) := hs
  clear hs
  rcases (HL.out.2.2.2.2.2.1).2 with ⟨rfl, h0⟩ | ⟨g, cap, cur, rfl, _⟩
  · go_enter_d Ybaf.func17, Ybaf.ntmps17
    go_wp2
    go_end0
    exact ⟨rfl, _, lv, HL.out.recv (cs' := []) (World.ownsRow_nil _ _ _ _) (fun i e => by cases e)⟩
  · have hcc := own_cap HL.out.2.2.2.2.2.1
    go_enter_d Ybaf.func17, Ybaf.ntmps17
    go_wp2
    go_end0
    exact ⟨rfl, _, lv, HL.out.recv (cs' := []) (own_zero HL.out.2.2.2.2.2.1) (fun i hi e => HL.out.2.2.2.2.2.2.2 i (by simpa [Value.ownBlock] using hi) e)⟩
end Go.Proofs.YbulkcwciFmt
