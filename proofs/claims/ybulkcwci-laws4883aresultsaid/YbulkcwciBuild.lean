import Derived.Test.YbulkcwciProg
import Derived.WalkKit
import Derived.WalkSpells
import Derived.WalkLawsBesides
import Derived.Deep.OwnRows
import Derived.Deep.QuietTactic
import Derived.BigQuiet
import Derived.Lib.Builder
import Derived.Handy
namespace Go.Proofs.Ybulkcwci
open Go.RowKit Go.Deep

theorem Yba.info26 : (Yba.prog.info? 26).map (fun i => (i.zero, i.size, i.bytes)) = some (some (.pointer none), 1, 8) := by kernel_rfl
theorem Yba.info32 : (Yba.prog.info? 32).map (fun i => i.size) = some 5 := by kernel_rfl

/-- "fairness" -/
def fairS : ByteArray := ⟨#[102, 97, 105, 114, 110, 101, 115, 115]⟩
/-- The law's table of names. -/
def tab : Nat → ByteArray
  | 0 => fairS
  | 1 => ⟨#[115, 97, 102, 101]⟩
  | 2 => ⟨#[108, 105, 118, 101]⟩
  | _ => ⟨#[]⟩
def tabCells : Array Value := #[.string ⟨#[102, 97, 105, 114, 110, 101, 115, 115]⟩, .string ⟨#[115, 97, 102, 101]⟩, .string ⟨#[108, 105, 118, 101]⟩, .string ⟨#[]⟩]
theorem tab_at (j : Nat) (h : j < 4) : tabCells[j]? = some (.string (tab j)) := by
  match j, h with
  | 0, _ => rfl
  | 1, _ => rfl
  | 2, _ => rfl
  | 3, _ => rfl

/-- A formula's cells: its name; is it decided over finite runs? -/
def node (k : ByteArray) (f : Bool) : Array Value := #[.string k, .int .i64 0, .int .i64 0, .nilIface, .bool f]

def Nodes (w : World) (B k : Nat) (K : Nat → ByteArray) (F : Nat → Bool) : Prop :=
  ∀ i, i < k → w.heap[B + 2 + i]? = some (.cells (node (K i) (F i)) 32 (0, 0))

def SRel (w : World) (n : Nat) (K : Nat → ByteArray) (F : Nat → Bool) (k : Nat) (wr : World) : Prop :=
  wr.heap.size = w.heap.size + 2 + k ∧ Below w.heap.size w wr ∧ wr.heap[w.heap.size]? = some (.cells tabCells 24 (0, 0)) ∧
    wr.rowIs (w.heap.size + 1) 26 n (fun i => if i < k then .pointer (some ⟨w.heap.size + 2 + i, 0, none⟩) else .pointer none) ∧ Nodes wr w.heap.size k K F

theorem SRel.start (w : World) (n : Nat) (K : Nat → ByteArray) (F : Nat → Bool) : SRel w n K F 0 ((w.alloc (.cells tabCells 24)).alloc (.cells (madeCells #[.pointer none] n) 26)) := by
  refine ⟨by simp, ((Below.refl _ _).alloc (Nat.le_refl _) _).alloc (by simp) _, ?_, ?_, fun i hi => by omega⟩
  · rw [blk_alloc_lt _ _ _ (by simp)]; exact blk_alloc_new _ _
  · have h := World.rowIs_made (w.alloc (.cells tabCells 24)) (.pointer none) n 26
    rw [show (w.alloc (.cells tabCells 24)).heap.size = w.heap.size + 1 by simp] at h
    exact h.congr (fun i _ => by simp)

theorem SRel.step {w wr : World} {n : Nat} {K : Nat → ByteArray} {F : Nat → Bool} {k : Nat} (h : SRel w n K F k wr) :
    SRel w n K F (k + 1) ((wr.alloc (.cells (node (K k) (F k)) 32)).setCell ⟨w.heap.size + 1, k, none⟩ (.pointer (some ⟨wr.heap.size, 0, none⟩))) := by
  obtain ⟨h1, h2, h0, h3, h4⟩ := h
  refine ⟨by simp [h1]; omega, (h2.alloc (by omega) _).setCell (by simp) _, ?_, ((h3.alloc _).set _ _).congr (fun i _ => ?_), fun i hi => ?_⟩
  · rw [blk_setCell_other _ _ _ _ (by simp), blk_alloc_lt _ _ _ (by omega)]; exact h0
  · show (if i = k then _ else if i < k then _ else _) = _
    rw [h1]
    by_cases e : i = k
    · subst e; simp
    · rw [if_neg e]
      by_cases e2 : i < k
      · rw [if_pos e2, if_pos (by omega)]
      · rw [if_neg e2, if_neg (by omega)]
  · rw [blk_setCell_other _ _ _ _ (by simp; omega)]
    by_cases e : i = k
    · subst e
      rw [← h1]; exact blk_alloc_new _ _
    · rw [blk_alloc_lt _ _ _ (by omega)]
      exact h4 i (by omega)

theorem SRel.room {w wr : World} {n : Nat} {K : Nat → ByteArray} {F : Nat → Bool} {k : Nat} (h : SRel w n K F k wr) (hlt : k < n) (o : Obj) :
    (wr.alloc o).cell? ⟨w.heap.size + 1, k, none⟩ = some (.pointer none) ∧ (wr.alloc o).frozen? ⟨w.heap.size + 1, k, none⟩ = false := by
  obtain ⟨h1, h2, h0, h3, h4⟩ := h
  refine ⟨?_, (h3.alloc o).frozen k⟩
  rw [(h3.alloc o).cell hlt, if_neg (by omega)]

theorem SRel.tcell {w wr : World} {n : Nat} {K : Nat → ByteArray} {F : Nat → Bool} {k j : Nat} (h : SRel w n K F k wr) (hj : j < 4) : wr.cell? ⟨w.heap.size, j, none⟩ = some (.string (tab j)) := by
  obtain ⟨h1, h2, h0, h3, h4⟩ := h
  simp [World.cell?, h0, tab_at j hj]

/-- A slice that came in: n elements, element j holds 'f j'. -/
def Elems (w : World) (a : Option Addr) (n : Nat) (f : Nat → Value) : Prop :=
  0 < n → ∃ b o, a = some ⟨b, o, none⟩ ∧ b < w.heap.size ∧ ∀ j, j < n → w.cell? ⟨b, o + j, none⟩ = some (f j)

/-- The model in memory, behind its making: block Mb holds the model, whose Specs is the row at block B + 1. -/
def MW (w : World) (B Mb n : Nat) (K : Nat → ByteArray) (F : Nat → Bool) : Prop :=
  w.heap[B]? = some (.cells tabCells 24 (0, 0)) ∧ w.rowIs (B + 1) 26 n (fun i => .pointer (some ⟨B + 2 + i, 0, none⟩)) ∧ Nodes w B n K F ∧
    w.heap[Mb]? = some (.cells #[.string ⟨#[]⟩, .slice none 0 0, .slice none 0 0, .slice none 0 0, .slice none 0 0, .slice none 0 0, .slice none 0 0, .slice (some ⟨B + 1, 0, none⟩) n n] 41 (0, 0)) ∧ B + 2 + n ≤ Mb

section
variable {w w' : World} {B Mb n : Nat} {K : Nat → ByteArray} {F : Nat → Bool}
theorem MW.of_blocks (h : MW w B Mb n K F) (hb : ∀ k, k < w.heap.size → w'.heap[k]? = w.heap[k]?) : MW w' B Mb n K F := by
  obtain ⟨h0, h1, h2, h3, h4⟩ := h
  have hlt : Mb < w.heap.size := (Array.getElem?_eq_some_iff.1 h3).1
  exact ⟨(hb _ (by omega)).trans h0, h1.of_block (hb _ h1.lt), fun i hi => (hb _ (by omega)).trans (h2 i hi), (hb _ hlt).trans h3, h4⟩
theorem MW.mcell (h : MW w B Mb n K F) : w.cell? ⟨Mb, 7, none⟩ = some (.slice (some ⟨B + 1, 0, none⟩) n n) := by
  obtain ⟨h0, h1, h2, h3, h4⟩ := h
  simp [World.cell?, h3]
theorem MW.pcell (h : MW w B Mb n K F) {i : Nat} (hi : i < n) : w.cell? ⟨B + 1, i, none⟩ = some (.pointer (some ⟨B + 2 + i, 0, none⟩)) := h.2.1.cell hi
theorem MW.ncell (h : MW w B Mb n K F) {i : Nat} (hi : i < n) : w.cell? ⟨B + 2 + i, 0, none⟩ = some (.string (K i)) ∧ w.cell? ⟨B + 2 + i, 4, none⟩ = some (.bool (F i)) := by
  have := h.2.2.1 i hi
  exact ⟨by simp [World.cell?, this, node], by simp [World.cell?, this, node]⟩
theorem MW.tcell (h : MW w B Mb n K F) {j : Nat} (hj : j < 4) : w.cell? ⟨B, j, none⟩ = some (.string (tab j)) := by
  simp [World.cell?, h.1, tab_at j hj]
end

/-- Which is the first that bears the name "fairness"? -/
def IsFair (K : Nat → ByteArray) (n B : Nat) (fp : Option Addr) : Prop :=
  (fp = none ∧ ∀ i, i < n → ((K i).toList == fairS.toList) = false) ∨ (∃ f, f < n ∧ ((K f).toList == fairS.toList) = true ∧ (∀ i, i < f → ((K i).toList == fairS.toList) = false) ∧ fp = some ⟨B + 2 + f, 0, none⟩)

set_option maxHeartbeats 400000 in
theorem spec_any (w : World) (B Mb n : Nat) (K : Nat → ByteArray) (F : Nat → Bool) (fp : Option Addr) (hn : n ≤ 1024) (h : MW w B Mb n K F) (hf : IsFair K n B fp) :
    Calls Yba.prog 5 #[.pointer (some ⟨Mb, 0, none⟩), .string fairS] w fun e w' => e = .returned (.pointer fp) ∧ w' = w := by
  have c7 := h.mcell
  have H : Hid (MW w B Mb n K F) := h
  clear h
  rcases hf with ⟨rfl, hf⟩ | ⟨f, hfn, hfe, hfl, rfl⟩
  · have HF : Hid (∀ i, i < n → ((K i).toList == fairS.toList) = false) := hf
    clear hf
    go_enter Yba.func5, Yba.ntmps5
    go_wp2
    go_loop [12] (fun v => ∃ i : Nat, i ≤ n ∧ v = .int .i64 i) (fun v => n - (intOf v).toNat)
    case atStart => exact ⟨0, Nat.zero_le _, rfl⟩
    case round =>
      obtain ⟨i, hi, rfl⟩ := hrel
      by_cases hlt : i < n
      · have p1 := H.out.pcell hlt
        obtain ⟨n1, -⟩ := H.out.ncell hlt
        have hb := HF.out i hlt
        go_wp2
        go_round
        case rel => exact ⟨i + 1, by omega, by go_num⟩
        case measure => simp [intOf]; omega
      · go_wp2
        go_ret
        exact ⟨rfl, rfl⟩
  · have HF : Hid (∀ i, i < f → ((K i).toList == fairS.toList) = false) := hfl
    clear hfl
    go_enter Yba.func5, Yba.ntmps5
    go_wp2
    go_loop [12] (fun v => ∃ i : Nat, i ≤ f ∧ v = .int .i64 i) (fun v => n - (intOf v).toNat)
    case atStart => exact ⟨0, Nat.zero_le _, rfl⟩
    case round =>
      obtain ⟨i, hi, rfl⟩ := hrel
      have hlt : i < n := by omega
      have p1 := H.out.pcell hlt
      obtain ⟨n1, -⟩ := H.out.ncell hlt
      by_cases hif : i < f
      · have hb := HF.out i hif
        clear hfe
        go_wp2
        go_round
        case rel => exact ⟨i + 1, by omega, by go_num⟩
        case measure => simp [intOf]; omega
      · obtain rfl : i = f := by omega
        go_wp2
        go_ret
        exact ⟨rfl, rfl⟩

theorem neq26_self (p : Option Addr) (w : World) : (binOp .neq 26 (.pointer p) (.pointer p)).run Yba.prog w = .ok (.bool false) w := by
  cases p with
  | none => exact run_neq_pointer_nil (P := Yba.prog) w 26 none (by kernel_rfl)
  | some a =>
    obtain ⟨j, hj, _⟩ := Option.map_eq_some_iff.1 Yba.info32
    exact Lib.run_neq_ptr_same w a Yba.underlying26 hj

theorem neq26_nil_left (a : Addr) (w : World) : (binOp .neq 26 (.pointer none) (.pointer (some a))).run Yba.prog w = .ok (.bool true) w := by
  have h : ∀ d : Nat, (Op.equalIn (d + 1) 26 (.pointer none) (.pointer (some a))).run Yba.prog w = .ok false w := fun d => by
    simp [Op.equalIn, run_underlying Yba.underlying26]
  simp only [binOp]
  simp [Op.equal, Op.maxDepth, h 9999]

theorem neq26_other {a b : Nat} (hne : a ≠ b) {w : World} {ca cb : Array Value} {ta tb : TypeId} (ha : w.heap[a]? = some (.cells ca ta (0, 0))) (hb : w.heap[b]? = some (.cells cb tb (0, 0))) :
    (binOp .neq 26 (.pointer (some ⟨a, 0, none⟩)) (.pointer (some ⟨b, 0, none⟩))).run Yba.prog w = .ok (.bool true) w := by
  obtain ⟨j, hj, hs⟩ := Option.map_eq_some_iff.1 Yba.info32
  have h : ∀ d : Nat, (Op.equalIn (d + 1) 26 (.pointer (some ⟨a, 0, none⟩)) (.pointer (some ⟨b, 0, none⟩))).run Yba.prog w = .ok false w := fun d => by
    simp [Op.equalIn, run_underlying Yba.underlying26, sizeOf, typeInfo, hj, hs, run_sameAddr_other w (a := ⟨a, 0, none⟩) (b := ⟨b, 0, none⟩) (fun h => hne (congrArg Addr.block h)) ha hb]
  simp only [binOp]
  simp [Op.equal, Op.maxDepth, h 9999]

/-- The formula that is handed to Premise: nil, or one that lies in memory. -/
def SpecAt (w : World) (sp : Option Addr) (nm : ByteArray) (fin : Bool) : Prop :=
  sp = none ∨ ∃ b, sp = some ⟨b, 0, none⟩ ∧ w.heap[b]? = some (.cells (node nm fin) 32 (0, 0))

/-- What Premise answers. -/
def wantOf (fp sp : Option Addr) (fin : Bool) : Option Addr := if fp.isSome = true ∧ sp ≠ fp ∧ fin = false then fp else none

/-- The fair one, as a place in memory. -/
theorem IsFair.at {K : Nat → ByteArray} {n B Mb : Nat} {fp : Option Addr} {F : Nat → Bool} {w : World} (hf : IsFair K n B fp) (h : MW w B Mb n K F) : fp = none ∨ ∃ f nm g, fp = some ⟨f, 0, none⟩ ∧ w.heap[f]? = some (.cells (node nm g) 32 (0, 0)) := by
  rcases hf with ⟨h1, _⟩ | ⟨f, h1, h2, h3, h4⟩
  · exact .inl h1
  · exact .inr ⟨_, _, _, h4, h.2.2.1 f h1⟩

set_option maxHeartbeats 400000 in
theorem premise_any (w : World) (B Mb n : Nat) (K : Nat → ByteArray) (F : Nat → Bool) (fp sp : Option Addr) (nm : ByteArray) (fin : Bool) (hn : n ≤ 1024) (h : MW w B Mb n K F) (hf : IsFair K n B fp) (hs : SpecAt w sp nm fin) (hnil : sp = none → fp = none) :
    Calls Yba.prog 4 #[.pointer (some ⟨Mb, 0, none⟩), .pointer sp] w fun e w' => e = .returned (.pointer (wantOf fp sp fin)) ∧ w' = w := by
  have hat := hf.at h
  have H : Hid (MW w B Mb n K F) := h
  have HF : Hid (IsFair K n B fp) := hf
  have nself := neq26_self
  have nleft := neq26_nil_left
  clear h hf
  rcases hs with rfl | ⟨b, rfl, hb⟩
  · obtain rfl := hnil rfl
    have ew : wantOf none none fin = none := by simp [wantOf]
    rw [ew]
    clear ew hat hnil
    go_enter Yba.func4, Yba.ntmps4
    go_wp2_with (go_at_call 5; refine (spec_any w B Mb n K F none hn H.out HF.out).mono ?_; rintro e w' ⟨rfl, rfl⟩)
    go_ret
    exact ⟨rfl, rfl⟩
  · have cf : w.cell? ⟨b, 4, none⟩ = some (.bool fin) := by simp [World.cell?, hb, node]
    clear hnil
    rcases hat with rfl | ⟨f, nm', g, rfl, hfb⟩
    · have ew : wantOf none (some ⟨b, 0, none⟩) fin = none := by simp [wantOf]
      rw [ew]
      clear ew hb
      cases fin
      all_goals
        go_enter Yba.func4, Yba.ntmps4
        go_wp2_with (go_at_call 5; refine (spec_any w B Mb n K F none hn H.out HF.out).mono ?_; rintro e w' ⟨rfl, rfl⟩)
        go_ret
        exact ⟨rfl, rfl⟩
    · by_cases hfb2 : f = b
      · subst hfb2
        have ew : wantOf (some ⟨f, 0, none⟩) (some ⟨f, 0, none⟩) fin = none := by simp [wantOf]
        rw [ew]
        clear ew hb hfb
        go_enter Yba.func4, Yba.ntmps4
        go_wp2_with (go_at_call 5; refine (spec_any w B Mb n K F _ hn H.out HF.out).mono ?_; rintro e w' ⟨rfl, rfl⟩)
        go_ret
        exact ⟨rfl, rfl⟩
      · have hno := neq26_other hfb2 hfb hb
        clear hb hfb nself
        cases fin
        · have ew : wantOf (some ⟨f, 0, none⟩) (some ⟨b, 0, none⟩) false = some ⟨f, 0, none⟩ := by unfold wantOf; rw [if_pos ⟨rfl, fun h => hfb2 (congrArg Addr.block (Option.some.inj h)).symm, rfl⟩]
          rw [ew]
          clear ew
          go_enter Yba.func4, Yba.ntmps4
          go_wp2_with (go_at_call 5; refine (spec_any w B Mb n K F _ hn H.out HF.out).mono ?_; rintro e w' ⟨rfl, rfl⟩)
          go_ret
          exact ⟨rfl, rfl⟩
        · have ew : wantOf (some ⟨f, 0, none⟩) (some ⟨b, 0, none⟩) true = none := by simp [wantOf]
          rw [ew]
          clear ew
          go_enter Yba.func4, Yba.ntmps4
          go_wp2_with (go_at_call 5; refine (spec_any w B Mb n K F _ hn H.out HF.out).mono ?_; rintro e w' ⟨rfl, rfl⟩)
          go_ret
          exact ⟨rfl, rfl⟩
end Go.Proofs.Ybulkcwci
