import Derived.Test.YbulkcwciFmtLawBase
import Derived.ProofKit
import Derived.Deep.Grids
import Derived.Deep.Slices
import Derived.SizedLaws
namespace Go.Proofs.YbulkcwciFmt
open Go.ChangeShapes Go.WideShapes Go.ChangeAt Go.RowKit Go.Deep

theorem cells25 : Ybaf.prog.cellsOf 25 = 1 := by kernel_rfl
theorem cells28 : Ybaf.prog.cellsOf 28 = 4 := by kernel_rfl
theorem cells5 : Ybaf.prog.cellsOf 5 = 1 := by kernel_rfl
theorem cells26 : Ybaf.prog.cellsOf 26 = 1 := by kernel_rfl
theorem cells3 : Ybaf.prog.cellsOf 3 = 1 := by kernel_rfl
theorem cells4 : Ybaf.prog.cellsOf 4 = 1 := by kernel_rfl
theorem bytes28 : Ybaf.prog.bytesOf 28 = 48 := by kernel_rfl

theorem elems_of {w : World} {x : Addr} {n : Nat} {f : Nat → Value} (h : ∀ j, j < n → w.cell? (x.add j) = some (f j)) : Elems w (some x) n f := by
  intro hn
  obtain ⟨b, o, spot⟩ := x
  have h0 := h 0 hn
  have hspot : spot = none := by simpa [Addr.add] using World.cell?_spot h0
  subst hspot
  have h' : ∀ j, j < n → w.cell? ⟨b, o + j, none⟩ = some (f j) := fun j hj => by
    have := h j hj
    by_cases e : j = 0
    · subst e; simpa [Addr.add] using this
    · simpa [Addr.add, e] using this
  exact ⟨b, o, rfl, World.block_lt_of_cell? _ _ (h' 0 hn), h'⟩
theorem u8_of {x : Int} (h : (Lit.int .u8 x).wf = true) : ∃ z : Nat, z < 256 ∧ x = z := by
  have hb : IntKind.u8.min ≤ x ∧ x ≤ IntKind.u8.max := by simpa [Lit.wf] using h
  have e1 : IntKind.u8.min = 0 := by decide
  have e2 : IntKind.u8.max = 255 := by decide
  rw [e1, e2] at hb
  exact ⟨x.toNat, by omega, by omega⟩
theorem u16_of {x : Int} (h : (Lit.int .u16 x).wf = true) : ∃ z : Nat, z < 65536 ∧ x = z := by
  have hb : IntKind.u16.min ≤ x ∧ x ≤ IntKind.u16.max := by simpa [Lit.wf] using h
  have e1 : IntKind.u16.min = 0 := by decide
  have e2 : IntKind.u16.max = 65535 := by decide
  rw [e1, e2] at hb
  exact ⟨x.toNat, by omega, by omega⟩
theorem getD_range {α : Type} (f : Nat → α) (n j : Nat) (d : α) (h : j < n) : ((List.range n).map f).getD j d = f j := by
  rw [List.getD_eq_getElem?_getD, List.getElem?_map, List.getElem?_range h]
  rfl

section
variable {H : Type} {enc : TypeId × Value → H} {w : World} {base : Nat} {held : Bool}

theorem read_oth {fuel : Nat} {v : Value} {x : DataW H × List MemPlace} (h : DataW.trod enc Ybaf.prog w base (fun _ => true) held fuel 26 [v] = some x) : ∃ l, OthAt w v l := by
  rcases open_ints Ybaf.underlying26 Ybaf.underlying5 cells5 h with ⟨hcs, _⟩ | ⟨a, len, cap, zs, hcs, _, hl, hm, hz, _, hcell, hwz⟩
  · simp only [List.cons.injEq, and_true] at hcs
    exact ⟨[], none, 0, hcs, fun m hm => absurd hm (by simp), fun h => absurd h (by simp)⟩
  · simp only [List.cons.injEq, and_true] at hcs
    simp only [if_true] at hz
    have each : ∀ j, j < len → ∃ z : Nat, z < 256 ∧ zs.getD j 0 = z := fun j hj => u8_of (hwz _ (by
      rw [List.getD_eq_getElem?_getD, List.getElem?_eq_getElem (by omega), Option.getD_some]
      exact List.getElem_mem _))
    obtain ⟨Z, hZ⟩ := choose_lt each
    refine ⟨(List.range len).map Z, some a, cap, by simpa using hcs, fun m hm => ?_, elems_of fun j hj => ?_⟩
    · have hm' : m < len := by simpa using hm
      rw [getD_range Z len m 0 hm']
      exact (hZ m hm').1
    · have hj' : j < len := by simpa using hj
      rw [getD_range Z len j 0 hj', hcell j (by omega), (hZ j hj').2]

set_option maxRecDepth 100000 in
theorem read_ed {fuel : Nat} {cs : List Value} {x : DataW H × List MemPlace} (h : DataW.trod enc Ybaf.prog w base (fun _ => true) held fuel 28 cs = some x) :
    ∃ (d : Ed) (c1 : Value), cs = [.int .u8 d.op, c1, .int .i64 d.tg, .bool d.keep] ∧ d.op < 256 ∧ OthAt w c1 d.oth := by
  obtain ⟨xs, n, _, _, hlen, hxl, hf⟩ := DataW.trod_struct Ybaf.underlying28 h
  rw [cells28] at hlen
  match cs, hlen with
  | [c0, c1, c2, c3], _ =>
    have f0 : DataW.trod enc Ybaf.prog w base (fun _ => true) held n 5 (([c0, c1, c2, c3].drop 0).take (Ybaf.prog.cellsOf 5)) = xs[0]? := hf 0 _ rfl
    have f1 : DataW.trod enc Ybaf.prog w base (fun _ => true) held n 26 (([c0, c1, c2, c3].drop 1).take (Ybaf.prog.cellsOf 26)) = xs[1]? := hf 1 _ rfl
    have f2 : DataW.trod enc Ybaf.prog w base (fun _ => true) held n 3 (([c0, c1, c2, c3].drop 2).take (Ybaf.prog.cellsOf 3)) = xs[2]? := hf 2 _ rfl
    have f3 : DataW.trod enc Ybaf.prog w base (fun _ => true) held n 4 (([c0, c1, c2, c3].drop 3).take (Ybaf.prog.cellsOf 4)) = xs[3]? := hf 3 _ rfl
    rw [cells5] at f0
    rw [cells26] at f1
    rw [cells3] at f2
    rw [cells4] at f3
    have g0 : DataW.trod enc Ybaf.prog w base (fun _ => true) held n 5 [c0] = xs[0]? := f0
    have g1 : DataW.trod enc Ybaf.prog w base (fun _ => true) held n 26 [c1] = xs[1]? := f1
    have g2 : DataW.trod enc Ybaf.prog w base (fun _ => true) held n 3 [c2] = xs[2]? := f2
    have g3 : DataW.trod enc Ybaf.prog w base (fun _ => true) held n 4 [c3] = xs[3]? := f3
    have hl4 : xs.length = 4 := hxl
    rw [List.getElem?_eq_getElem (by omega)] at g0 g1 g2 g3
    obtain ⟨n0, e0, _, w0⟩ := DataW.trod_int Ybaf.underlying5 g0
    obtain ⟨l, hl⟩ := read_oth g1
    obtain ⟨n2, e2, _, _⟩ := DataW.trod_int Ybaf.underlying3 g2
    obtain ⟨b3, e3, _⟩ := DataW.trod_bool Ybaf.underlying4 g3
    obtain ⟨z, hz, rfl⟩ := u8_of w0
    simp only [List.cons.injEq, and_true] at e0 e2 e3
    subst e0 e2 e3
    exact ⟨⟨z, l, n2, b3⟩, c1, rfl, hz, hl⟩

/-- A row of edges, and what its datum says of its length. -/
theorem read_row {fuel : Nat} {v : Value} {x : DataW H × List MemPlace} (h : DataW.trod enc Ybaf.prog w base (fun _ => true) held fuel 25 [v] = some x) :
    ∃ r, RowAt w v r ∧ (r = [] ∨ ∃ el sp, x.1 = .slice el sp ∧ el.length = r.length) := by
  rcases open_slice Ybaf.underlying25 h with ⟨hcs, _⟩ | ⟨a, len, cap, m, n, D, Pl, hcs, hb, hl, hm, hmm, hx, hall⟩
  · simp only [List.cons.injEq, and_true] at hcs
    exact ⟨[], ⟨none, 0, hcs, fun h => absurd h (by simp)⟩, .inl rfl⟩
  · simp only [List.cons.injEq, and_true] at hcs
    simp only [if_true] at hmm
    rw [cells28] at hall
    have each : ∀ j, j < len → ∃ d : Ed, d.op < 256 ∧ ∃ c1, OthAt w c1 d.oth ∧ w.cells? base (a.add (j * 4)) 4 = some [.int .u8 d.op, c1, .int .i64 d.tg, .bool d.keep] := fun j hj => by
      obtain ⟨cs', h1, h2⟩ := hall j (by omega)
      obtain ⟨d, c1, rfl, hd, ho⟩ := read_ed h2
      exact ⟨d, hd, c1, ho, h1⟩
    obtain ⟨R, hR⟩ := @choose_lt Ed ⟨Ed.d⟩ _ _ each
    refine ⟨(List.range len).map R, ⟨some a, cap, by simpa using hcs, fun h0 => ?_⟩, .inr ⟨_, _, by rw [hx], by simp⟩⟩
    have h0' : 0 < len := by simpa using h0
    obtain ⟨b, o, spot⟩ := a
    obtain ⟨_, c1, _, hc⟩ := hR 0 h0'
    have hc0 := (World.cells?_some hc).2.2 0 (by omega)
    have hspot : spot = none := by simpa [Addr.add] using World.cell?_spot hc0
    subst hspot
    have hcell : ∀ j, j < len → ∀ t, t < 4 → ∀ c1, w.cells? base ((⟨b, o, none⟩ : Addr).add (j * 4)) 4 = some [.int .u8 (R j).op, c1, .int .i64 (R j).tg, .bool (R j).keep] → w.cell? ⟨b, o + j * 4 + t, none⟩ = ([.int .u8 (R j).op, c1, .int .i64 (R j).tg, .bool (R j).keep] : List Value)[t]? := fun j hj t ht c1 hc => by
      have := (World.cells?_some hc).2.2 t ht
      rw [Addr.add_add] at this
      rw [← this]
      congr 1
      unfold Addr.add
      split
      · rename_i e
        obtain ⟨rfl, rfl⟩ : j = 0 ∧ t = 0 := by omega
        rfl
      · simp [Nat.add_assoc]
    refine ⟨b, o, rfl, ?_, fun j hj => ?_⟩
    · have := hcell 0 h0' 0 (by omega) c1 hc
      exact World.block_lt_of_cell? _ _ (this.trans rfl)
    · have hj' : j < len := by simpa using hj
      rw [getD_range R len j Ed.d hj']
      obtain ⟨hop, c1, ho, hc⟩ := hR j hj'
      exact ⟨hop, hcell j hj' 0 (by omega) c1 hc, ⟨c1, hcell j hj' 1 (by omega) c1 hc, ho⟩, hcell j hj' 2 (by omega) c1 hc, hcell j hj' 3 (by omega) c1 hc⟩

theorem weights_all {P : Program} {e : TypeId} {n : Nat} : ∀ {ds : List (DataW H)} {d : DataW H}, d ∈ ds → n ∈ d.weights P e → n ∈ DataW.weightsAll P e ds
  | [], _, h, _ => absurd h (by simp)
  | d0 :: ds, d, h, hn => by
    unfold DataW.weightsAll
    rw [List.mem_append]
    rcases List.mem_cons.1 h with e | e
    · subst e; exact .inl hn
    · exact .inr (weights_all e hn)

theorem read_locs {fuel : Nat} {v : Value} {x : DataW H × List MemPlace} (h : DataW.trod enc Ybaf.prog w base (fun _ => true) held fuel 22 [v] = some x) (hw : ∀ n ∈ x.1.weights Ybaf.prog 22, n ≤ reachBytes) :
    ∃ L lc LA, v = .slice LA L.length lc ∧ LocsAt w v L ∧ ∀ i, i < L.length → (L.getD i []).length ≤ 140737488355328 := by
  rcases open_slice1 Ybaf.underlying22 cells25 h with ⟨hcs, _⟩ | ⟨a, len, cap, m, n, V, D, Pl, hcs, hb, hl, hm, hmm, hx, hall⟩
  · simp only [List.cons.injEq, and_true] at hcs
    exact ⟨[], 0, none, hcs, ⟨none, 0, hcs, fun h => absurd h (by simp)⟩, fun i hi => absurd hi (by simp)⟩
  · simp only [List.cons.injEq, and_true] at hcs
    simp only [if_true] at hmm
    have each : ∀ i, i < len → ∃ r : List Ed, RowAt w (V i) r ∧ (r = [] ∨ ∃ el sp, D i = .slice el sp ∧ el.length = r.length) := fun i hi => read_row (hall i (by omega)).2
    obtain ⟨R, hR⟩ := choose_lt each
    have hlen : ((List.range len).map R).length = len := by simp
    have hv : v = .slice (some a) ((List.range len).map R).length cap := by rw [hlen]; exact hcs
    refine ⟨(List.range len).map R, cap, some a, hv, ⟨some a, cap, hv, fun h0 => ?_⟩, fun i hi => ?_⟩
    · have hc : ∀ j, j < len → w.cell? (a.add j) = some (V j) := fun j hj => (hall j (by omega)).1
      obtain ⟨b, o, e, hb', hcell⟩ := elems_of hc (by omega)
      refine ⟨b, o, e, hb', fun i hi => ⟨V i, hcell i (by omega), ?_⟩⟩
      rw [getD_range R len i [] (by omega)]
      exact (hR i (by omega)).1
    · have hi' : i < len := by omega
      rw [getD_range R len i [] hi']
      rcases (hR i hi').2 with e | ⟨el, sp, e1, e2⟩
      · rw [e]; exact Nat.zero_le _
      · have hmem : (el.length + sp.length) * Ybaf.prog.bytesOf 28 ∈ x.1.weights Ybaf.prog 22 := by
          rw [hx]
          simp only [DataW.weights, Ybaf.underlying22]
          refine List.mem_cons_of_mem _ (List.mem_append_left _ (weights_all (d := D i) (List.mem_map.2 ⟨i, List.mem_range.2 hi', rfl⟩) ?_))
          rw [e1]
          simp [DataW.weights, Ybaf.underlying25]
        have := hw _ hmem
        rw [bytes28] at this
        unfold reachBytes at this
        omega
end
end Go.Proofs.YbulkcwciFmt
