import Derived.Test.YbulkcwdkLocks
namespace Go.Proofs.Ybulkcwdk
open Go.RowKit Go.Deep
open Go.Maps (has IsMap)
open Go.WideMaps (keyOf_string_mk)

theorem law9 : Maps.Keyed Yba.prog 9 := Maps.string_keyed Yba.underlying9
theorem zero4 (w : World) : (zeroValue 4).run Yba.prog w = .ok (.bool false) w := by kernel_rfl

theorem plainElem_bool_inv' {H : Type} {P : Program} {t : TypeId} (he : P.underlying t = some .bool) {v : Value} {z : DataW H × List MemPlace} (h : plainElem P t v = some z) : ∃ x, v = .bool x ∧ z = (.lit (.bool x), []) := by
  unfold plainElem at h
  split at h
  · exact ⟨_, rfl, (Option.some.inj h).symm⟩
  · rename_i h1; rw [he] at h1; cases h1
  · rename_i h1; rw [he] at h1; cases h1
  · cases h
theorem plainElem_bool_inv {H : Type} {v : Value} {z : DataW H × List MemPlace} (h : plainElem Yba.prog 4 v = some z) : ∃ x, v = .bool x ∧ z = (.lit (.bool x), []) := plainElem_bool_inv' Yba.underlying4 h

/-- The map at block bm reads as D. -/
abbrev Owns (w : World) (bm n : Nat) (D : DataW Unit) : Prop := w.ownsMap Yba.prog 9 (plainElem Yba.prog 4) bm n D

/-- The key's datum. -/
abbrev ky (s : ByteArray) : Lit := .string s.data.toList
/-- What the datum holds at a key, as Go reads it. -/
def valAt (D : DataW Unit) (s : ByteArray) (v : Bool) : Prop := D.atKey (ky s) (.lit (.bool false)) = .lit (.bool v)

theorem look_own {w : World} {bm n : Nat} {D : DataW Unit} (h : Owns w bm n D) {s : ByteArray} (hs : s.size ≤ maxLen) {v : Bool} (hv : valAt D s v) :
    (Instr.lookup 24 (.map (some bm)) (.string s) false).run Yba.prog w = .ok (.bool v) w := by
  obtain ⟨x, ps, hrun, hx⟩ := h.lookup law9 Yba.underlying24 (zero4 w) (zd := .lit (.bool false)) (zp := []) (plainElem_bool Yba.underlying4 false) (keyOf_string_mk Yba.underlying9 hs)
  obtain ⟨y, rfl, hy⟩ := plainElem_bool_inv hx
  simp only [Prod.mk.injEq] at hy
  have e := hv.symm.trans hy.1
  simp at e
  rw [hrun, e]

theorem look_ok_own {w : World} {bm n : Nat} {D : DataW Unit} (h : Owns w bm n D) {s : ByteArray} (hs : s.size ≤ maxLen) (hh : has D (ky s) = true) :
    ∃ v, valAt D s v ∧ (Instr.lookup 24 (.map (some bm)) (.string s) true).run Yba.prog w = .ok (.tuple #[.bool v, .bool true]) w := by
  obtain ⟨x, ps, hrun, hx⟩ := h.look_ok law9 Yba.underlying24 (zero4 w) (zd := .lit (.bool false)) (zp := []) (plainElem_bool Yba.underlying4 false) (keyOf_string_mk Yba.underlying9 hs)
  obtain ⟨y, rfl, hy⟩ := plainElem_bool_inv hx
  rw [hh] at hrun
  simp only [Prod.mk.injEq] at hy
  exact ⟨y, hy.1, hrun⟩

/-- .. in whatever world the map lies: the same answer. -/
theorem look_ok_all {bm n : Nat} {D : DataW Unit} {s : ByteArray} (hs : s.size ≤ maxLen) (hh : has D (ky s) = true) {w : World} (h : Owns w bm n D) :
    ∃ v, ∀ k, (Instr.lookup 24 (.map (some bm)) (.string s) true).run Yba.prog (w.drewN k) = .ok (.tuple #[.bool v, .bool true]) (w.drewN k) := by
  obtain ⟨v, hv, _⟩ := look_ok_own h hs hh
  refine ⟨v, fun k => ?_⟩
  have h' : Owns (w.drewN k) bm n D := h
  obtain ⟨v', hv', hrun⟩ := look_ok_own h' hs hh
  have e := hv.symm.trans hv'
  simp at e
  rw [hrun, e]

theorem look_nil {w : World} {s : ByteArray} (hs : s.size ≤ maxLen) : (Instr.lookup 24 (.map none) (.string s) false).run Yba.prog w = .ok (.bool false) w := by
  have := Maps.look_nil (P := Yba.prog) (w := w) false law9 Yba.underlying24 (zero4 w) (keyOf_string_mk Yba.underlying9 hs)
  simpa using this

/-- The world behind a lock taken and given back. -/
abbrev relocked (w : World) (tb : Nat) : World := (w.setCell ⟨tb, 11, none⟩ (.int .i32 1)).setCell ⟨tb, 11, none⟩ (.int .i32 0)

set_option maxHeartbeats 400000 in
set_option maxRecDepth 100000 in
/-- isHelper, the lock free: what the map holds at the name. -/
theorem isHelper_any (tb : Nat) (mv : Value) (s : ByteArray) (v : Bool) (w : World) (c11 : w.cell? ⟨tb, 11, none⟩ = some (.int .i32 0)) (f11 : w.frozen? ⟨tb, 11, none⟩ = false) (c27 : w.cell? ⟨tb, 27, none⟩ = some mv) (hmv : ∃ r, mv = .map r)
    (hrun : (Instr.lookup 24 mv (.string s) false).run Yba.prog (w.setCell ⟨tb, 11, none⟩ (.int .i32 1)) = .ok (.bool v) (w.setCell ⟨tb, 11, none⟩ (.int .i32 1))) :
    Calls Yba.prog 5 #[.pointer (some ⟨tb, 0, none⟩), .string s] w fun e w' => e = .returned (.bool v) ∧ w' = relocked w tb := by
  obtain ⟨r, rfl⟩ := hmv
  go_enter_defers Yba.func5, Yba.ntmps5
  go_wp2_with (go_at_call 8; refine (lock_any tb 11 _ c11 f11).mono ?_; rintro e w' ⟨rfl, rfl⟩)
  refine leaves_cons (f := 7) (args := #[.pointer (some ⟨tb, 11, none⟩)]) (by simp) (by simp [go_sem]) ?_
  refine (unlock_deferred tb 11 .returning _ ?_ ?_).mono ?_
  · exact World.cell?_setCell_same w ⟨tb, 11, none⟩ (.int .i32 1) c11
  · simp [f11]
  rintro e u' w'' ⟨rfl, rfl, rfl⟩
  exact ⟨_, results_tmp rfl _ _ _, rfl, rfl⟩
end Go.Proofs.Ybulkcwdk
