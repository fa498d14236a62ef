import Derived.Test.YbulkcwbuProg
import Derived.WalkKit
import Derived.WalkSpells
import Derived.WalkLawsBesides
import Derived.Deep.OwnRows
import Derived.Handy
namespace Go.Proofs.Ybulkcwbu
open Go.RowKit Go.Deep

theorem Yba.info27 : (Yba.prog.info? 27).map (fun i => (i.zero, i.size, i.bytes)) = some (some (.pointer none), 1, 8) := by kernel_rfl

/-- A reader's cells: its key, its age, its block. -/
def node (k : ByteArray) (a i : Int) : Array Value := #[.pointer none, .nilIface, .bool false, .int .i64 i, .slice none 0 0, .bool false, .string k, .int .u32 0, .int .u32 0, .int .i64 0, .int .u32 0, .int .u32 0, .int .i64 0, .int .u32 0, .int .i64 0, .int .u8 0, .slice none 0 0, .bool false, .bool false, .slice none 0 0, .int .i64 a]

/-- The readers lie behind the row at block B, one a block. -/
def Nodes (w : World) (B k : Nat) (K : Nat → ByteArray) (A : Nat → Int) : Prop :=
  ∀ i, i < k → w.heap[B + 1 + i]? = some (.cells (node (K i) (A i) i) 46 (0, 0))

def BRel (w : World) (n : Nat) (K : Nat → ByteArray) (A : Nat → Int) (k : Nat) (wr : World) : Prop :=
  wr.heap.size = w.heap.size + 1 + k ∧ Below w.heap.size w wr ∧ wr.rowIs w.heap.size 27 n (fun i => if i < k then .pointer (some ⟨w.heap.size + 1 + i, 0, none⟩) else .pointer none) ∧ Nodes wr w.heap.size k K A

theorem BRel.start (w : World) (n : Nat) (K : Nat → ByteArray) (A : Nat → Int) : BRel w n K A 0 (w.alloc (.cells (madeCells #[.pointer none] n) 27)) :=
  ⟨by simp, (Below.refl _ _).alloc (Nat.le_refl _) _, (World.rowIs_made w _ n 27).congr (fun i _ => by simp), fun i hi => by omega⟩

theorem BRel.step {w wr : World} {n : Nat} {K : Nat → ByteArray} {A : Nat → Int} {k : Nat} (h : BRel w n K A k wr) :
    BRel w n K A (k + 1) ((wr.alloc (.cells (node (K k) (A k) k) 46)).setCell ⟨w.heap.size, k, none⟩ (.pointer (some ⟨wr.heap.size, 0, none⟩))) := by
  obtain ⟨h1, h2, h3, h4⟩ := h
  refine ⟨by simp [h1]; omega, (h2.alloc (by omega) _).setCell (by simp) _, ((h3.alloc _).set _ _).congr (fun i _ => ?_), fun i hi => ?_⟩
  · show (if i = k then _ else if i < k then _ else _) = _
    rw [h1]
    by_cases e : i = k
    · subst e; simp
    · rw [if_neg e]
      by_cases e2 : i < k
      · rw [if_pos e2, if_pos (by omega)]
      · rw [if_neg e2, if_neg (by omega)]
  · rw [blk_setCell_other _ _ _ _ (by simp; omega)]
    by_cases e : i = k
    · subst e
      rw [← h1]; exact blk_alloc_new _ _
    · rw [blk_alloc_lt _ _ _ (by omega)]
      exact h4 i (by omega)

theorem BRel.room {w wr : World} {n : Nat} {K : Nat → ByteArray} {A : Nat → Int} {k : Nat} (h : BRel w n K A k wr) (hlt : k < n) (o : Obj) :
    (wr.alloc o).cell? ⟨w.heap.size, k, none⟩ = some (.pointer none) ∧ (wr.alloc o).frozen? ⟨w.heap.size, k, none⟩ = false := by
  obtain ⟨h1, h2, h3, h4⟩ := h
  refine ⟨?_, (h3.alloc o).frozen k⟩
  rw [(h3.alloc o).cell hlt, if_neg (by omega)]

set_option maxHeartbeats 400000 in
theorem build_mm (kb ko n kc ab ao m ac : Nat) (K : Nat → ByteArray) (A : Nat → Int) (w : World) (hn0 : 0 < n) (hn : n ≤ 1024) (hm0 : 0 < m) (hm : m ≤ 9223372036854775807)
    (hk : ∀ j, j < n → w.cell? ⟨kb, ko + j, none⟩ = some (.string (K j))) (ha : ∀ j, j < m → w.cell? ⟨ab, ao + j, none⟩ = some (.int .i64 (A j))) (hkb : kb < w.heap.size) (hab : ab < w.heap.size) :
    Calls Yba.prog 5 #[.slice (some ⟨kb, ko, none⟩) n kc, .slice (some ⟨ab, ao, none⟩) m ac] w fun e w' => e = .returned (.slice (some ⟨w.heap.size, 0, none⟩) n n) ∧ BRel w n K (fun i => A (i % m)) n w' := by
  have hmk := run_make_row' (P := Yba.prog) 25 27 (.pointer none) 8 Yba.underlying25 Yba.info27 rfl .i64 .i64 n (by omega) (by omega)
  go_enter Yba.func5, Yba.ntmps5
  go_wp2
  go_loopw [7] (fun i wr => ∃ k : Nat, k ≤ n ∧ i = .int .i64 k ∧ BRel w n K (fun i => A (i % m)) k wr) (fun i _ => n - (intOf i).toNat)
  case atStart => exact ⟨0, Nat.zero_le _, rfl, BRel.start _ _ _ _⟩
  case round =>
    obtain ⟨k, hkn, rfl, hrel⟩ := hrel
    clear hmk
    by_cases hlt : k < n
    · have ck : wr.cell? ⟨kb, ko + k, none⟩ = some (.string (K k)) := (hrel.2.1.cell hkb).trans (hk k hlt)
      have hmod : k % m < m := Nat.mod_lt _ hm0
      have cm : wr.cell? ⟨ab, ao + k % m, none⟩ = some (.int .i64 (A (k % m))) := (hrel.2.1.cell hab).trans (ha _ hmod)
      have cz := fun o => (hrel.room hlt o).1
      have fz := fun o => (hrel.room hlt o).2
      have HT : Hid (BRel w n K (fun i => A (i % m)) (k + 1) ((wr.alloc (.cells (node (K k) (A (k % m)) k) 46)).setCell ⟨w.heap.size, k, none⟩ (.pointer (some ⟨wr.heap.size, 0, none⟩)))) := hrel.step
      clear hk ha hrel
      go_wp2
      go_roundw
      case rel => exact ⟨k + 1, hlt, by go_num, HT.out⟩
      case measure => simp [intOf]; omega
    · obtain rfl : k = n := by omega
      go_wp2
      go_ret
      exact ⟨rfl, hrel⟩

set_option maxHeartbeats 400000 in
theorem build_m0 (kb ko n kc ac : Nat) (aa : Option Addr) (K : Nat → ByteArray) (w : World) (hn : n ≤ 1024)
    (hk : ∀ j, j < n → w.cell? ⟨kb, ko + j, none⟩ = some (.string (K j))) (hkb : kb < w.heap.size) :
    Calls Yba.prog 5 #[.slice (some ⟨kb, ko, none⟩) n kc, .slice aa 0 ac] w fun e w' => e = .returned (.slice (some ⟨w.heap.size, 0, none⟩) n n) ∧ BRel w n K (fun _ => 0) n w' := by
  have hmk := run_make_row' (P := Yba.prog) 25 27 (.pointer none) 8 Yba.underlying25 Yba.info27 rfl .i64 .i64 n (by omega) (by omega)
  go_enter Yba.func5, Yba.ntmps5
  go_wp2
  go_loopw [7] (fun i wr => ∃ k : Nat, k ≤ n ∧ i = .int .i64 k ∧ BRel w n K (fun _ => 0) k wr) (fun i _ => n - (intOf i).toNat)
  case atStart => exact ⟨0, Nat.zero_le _, rfl, BRel.start _ _ _ _⟩
  case round =>
    obtain ⟨k, hkn, rfl, hrel⟩ := hrel
    clear hmk
    by_cases hlt : k < n
    · have ck : wr.cell? ⟨kb, ko + k, none⟩ = some (.string (K k)) := (hrel.2.1.cell hkb).trans (hk k hlt)
      have cz := fun o => (hrel.room hlt o).1
      have fz := fun o => (hrel.room hlt o).2
      have HT : Hid (BRel w n K (fun _ => 0) (k + 1) ((wr.alloc (.cells (node (K k) 0 k) 46)).setCell ⟨w.heap.size, k, none⟩ (.pointer (some ⟨wr.heap.size, 0, none⟩)))) := hrel.step
      clear hk hrel
      go_wp2
      go_roundw
      case rel => exact ⟨k + 1, hlt, by go_num, HT.out⟩
      case measure => simp [intOf]; omega
    · obtain rfl : k = n := by omega
      go_wp2
      go_ret
      exact ⟨rfl, hrel⟩

set_option maxHeartbeats 400000 in
theorem build_n0 (ka aa : Option Addr) (kc m ac : Nat) (K : Nat → ByteArray) (A : Nat → Int) (w : World) :
    Calls Yba.prog 5 #[.slice ka 0 kc, .slice aa m ac] w fun e w' => e = .returned (.slice (some ⟨w.heap.size, 0, none⟩) 0 0) ∧ BRel w 0 K A 0 w' := by
  have hmk := run_make_row' (P := Yba.prog) 25 27 (.pointer none) 8 Yba.underlying25 Yba.info27 rfl .i64 .i64 0 (by omega) (by omega)
  simp only [Int.natCast_zero] at hmk
  go_enter Yba.func5, Yba.ntmps5
  go_wp2
  refine wp_loop_rounds 1 ?_
  rw [rounds_succ]
  go_wp2
  go_ret
  exact ⟨rfl, BRel.start _ _ _ _⟩

/-- A slice that came in: n elements, element j holds 'f j'. -/
def Elems (w : World) (a : Option Addr) (n : Nat) (f : Nat → Value) : Prop :=
  0 < n → ∃ b o, a = some ⟨b, o, none⟩ ∧ b < w.heap.size ∧ ∀ j, j < n → w.cell? ⟨b, o + j, none⟩ = some (f j)

theorem elems_of {w : World} {x : Addr} {n : Nat} {f : Nat → Value} (h : ∀ j, j < n → w.cell? (x.add j) = some (f j)) : Elems w (some x) n f := by
  intro hn
  obtain ⟨b, o, spot⟩ := x
  have h0 := h 0 hn
  have hspot : spot = none := by simpa [Addr.add] using World.cell?_spot h0
  subst hspot
  have h' : ∀ j, j < n → w.cell? ⟨b, o + j, none⟩ = some (f j) := fun j hj => by
    have := h j hj
    by_cases e : j = 0
    · subst e; simpa [Addr.add] using this
    · simpa [Addr.add, e] using this
  refine ⟨b, o, rfl, ?_, h'⟩
  have h1 := h' 0 hn
  simp only [World.cell?] at h1
  by_cases hlt : b < w.heap.size
  · exact hlt
  · rw [Array.getElem?_eq_none (by omega)] at h1
    cases h1

def ageOf (m : Nat) (A : Nat → Int) (i : Nat) : Int := if m = 0 then 0 else A (i % m)

theorem build_any (ka aa : Option Addr) (n kc m ac : Nat) (K : Nat → ByteArray) (A : Nat → Int) (w : World) (hn : n ≤ 1024) (hm : m ≤ 9223372036854775807)
    (hk : Elems w ka n (fun j => .string (K j))) (ha : Elems w aa m (fun j => .int .i64 (A j))) :
    Calls Yba.prog 5 #[.slice ka n kc, .slice aa m ac] w fun e w' => e = .returned (.slice (some ⟨w.heap.size, 0, none⟩) n n) ∧ BRel w n K (ageOf m A) n w' := by
  by_cases h0 : n = 0
  · subst h0
    exact build_n0 ka aa kc m ac K (ageOf m A) w
  · obtain ⟨kb, ko, rfl, hkb, hk⟩ := hk (by omega)
    by_cases m0 : m = 0
    · subst m0
      exact build_m0 kb ko n kc ac aa K w hn hk hkb
    · obtain ⟨ab, ao, rfl, hab, ha⟩ := ha (by omega)
      have e : ageOf m A = fun i => A (i % m) := by funext i; simp [ageOf, m0]
      rw [e]
      exact build_mm kb ko n kc ab ao m ac K A w (by omega) hn (by omega) hm hk ha hkb hab

/-- Pop: the last pointer; the slice is cut by one. -/
theorem pop_any (hb B n c : Nat) (v : Option Addr) (w : World) (hn : 0 < n) (hn2 : n ≤ 1024) (hnc : n ≤ c) (hh : w.cell? ⟨hb, 0, none⟩ = some (.slice (some ⟨B, 0, none⟩) n c)) (hf : w.frozen? ⟨hb, 0, none⟩ = false)
    (hv : w.cell? ⟨B, n - 1, none⟩ = some (.pointer v)) :
    Calls Yba.prog 6 #[.pointer (some ⟨hb, 0, none⟩)] w fun e w' => e = .returned (.iface 27 (.pointer v)) ∧ w' = w.setCell ⟨hb, 0, none⟩ (.slice (some ⟨B, 0, none⟩) (n - 1) c) := by
  go_enter Yba.func6, Yba.ntmps6
  go_wp2
  go_ret
  exact ⟨rfl, rfl⟩
end Go.Proofs.Ybulkcwbu
