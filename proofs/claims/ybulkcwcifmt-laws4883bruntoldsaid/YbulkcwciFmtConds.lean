import Derived.Test.YbulkcwciFmtUnread
namespace Go.Proofs.YbulkcwciFmt
open Go.RowKit Go.Deep Go.Extern.Stop Go.Stop Go.Extern

/-! ### The location's edges -/
structure Eds where
  n : Nat
  op : Nat → Nat
  tg : Nat → Int
  keep : Nat → Bool
  oth : Nat → List Nat

/-- The edges as they lie in the memory that the step does not write. -/
def EdgesAt (c : Cfg) (E : Eds) (ea : Option Addr) : Prop :=
  E.n ≤ 1024 ∧ (0 < E.n → ∃ eb, ea = some ⟨eb, 0, none⟩ ∧ ∀ j, j < E.n → EdgeAt c eb (j * 8) (E.op j) (E.tg j) (E.keep j) ∧
    c.w0.cell? ⟨eb, j * 8 + 1, none⟩ = some (.int .i64 0) ∧ c.w0.cell? ⟨eb, j * 8 + 2, none⟩ = some (.int .i64 0) ∧
    (E.oth j).length ≤ 256 ∧ (∀ o ∈ E.oth j, o < E.n) ∧
    ∃ ob, c.w0.cell? ⟨eb, j * 8 + 5, none⟩ = some (.slice (some ⟨ob, 0, none⟩) (E.oth j).length (E.oth j).length) ∧ ob < c.w0.heap.size ∧ ob ≠ c.xb ∧ ob ≠ c.wb ∧
      ∀ m, m < (E.oth j).length → c.w0.cell? ⟨ob, m, none⟩ = some (.int .i64 ((E.oth j).getD m 0 : Nat)))

/-- The guards. -/
def GuardsAt (c : Cfg) (GA : Option Addr) (gl gc : Nat) (G : Nat → Bool) : Prop :=
  c.gs = .slice GA gl gc ∧ gl ≤ 1024 ∧ (0 < gl → ∃ b o, GA = some ⟨b, o, none⟩ ∧ b < c.w0.heap.size ∧ b ≠ c.xb ∧ b ≠ c.wb ∧ ∀ j, j < gl → c.w0.cell? ⟨b, o + j, none⟩ = some (.bool (G j)))

/-! ### Plain words -/
def gk (op : Nat → Nat) : Nat → Nat
  | 0 => 0
  | i + 1 => if op i = 1 then gk op i + 1 else gk op i
theorem gk_le (op : Nat → Nat) : ∀ i, gk op i ≤ i
  | 0 => Nat.le_refl _
  | i + 1 => by
    have := gk_le op i
    unfold gk
    split <;> omega
def gv (gl : Nat) (G : Nat → Bool) (k : Nat) : Bool := if k < gl then G k else false
def c1 (op : Nat → Nat) (gl : Nat) (G : Nat → Bool) (i : Nat) : Bool := if op i = 0 ∨ op i = 2 then true else if op i = 1 then gv gl G (gk op i) else false
def pass1 (op : Nat → Nat) (gl : Nat) (G : Nat → Bool) (i : Nat) : List Bool := (List.range i).map (c1 op gl G)
theorem pass1_succ (op : Nat → Nat) (gl : Nat) (G : Nat → Bool) (i : Nat) : pass1 op gl G (i + 1) = pass1 op gl G i ++ [c1 op gl G i] := by simp [pass1, List.range_succ]
theorem pass1_length (op : Nat → Nat) (gl : Nat) (G : Nat → Bool) (i : Nat) : (pass1 op gl G i).length = i := by simp [pass1]

/-- w.conds has grown; it is stored anew. -/
theorem StL.setConds {c : Cfg} {k ends : Nat} {log : List Int} {lv cv cv' ov : Value} {cs news os : List Bool} {w w' : World} (h : StL c k ends log lv cv cs ov os w) (g : w.grownBy w' cv.ownBlock) (hown : w'.ownsRow c.w0.heap.size 4 1 cv' (cs.length + news.length) (bools cs ++ bools news))
    (hat : ∀ i, cv'.ownBlock = some i → cv.ownBlock = some i ∨ w.heap.size ≤ i) :
    StL c k ends log lv cv' (cs ++ news) ov os (w'.setCell ⟨c.wb, 2, none⟩ cv') := by
  have lt := h.lt
  obtain ⟨h1, h2, h3, h4, h5, h6, h7, h8⟩ := h
  have old : ∀ i, i < c.w0.heap.size → cv.ownBlock ≠ some i := fun i hi e => by have := h6.lt i e; omega
  have hx : w'.heap[c.xb]? = w.heap[c.xb]? := g.block _ lt.1 (fun e => old _ h2.1 e.symm)
  have hw : w'.heap[c.wb]? = w.heap[c.wb]? := g.block _ lt.2 (fun e => old _ h2.2.1 e.symm)
  have key : ∀ (e n : Nat) (v : Value) (xs : List Value), w.ownsRow c.w0.heap.size e 1 v n xs → (∀ i, v.ownBlock = some i → cv.ownBlock ≠ some i) → (w'.setCell ⟨c.wb, 2, none⟩ cv').ownsRow c.w0.heap.size e 1 v n xs := fun e n v xs hv hne =>
    own_of hv fun i hb hi he => (Below.heap_setCell _ _ _ _ (by show i ≠ c.wb; omega)).trans (g.block i hi (fun e => hne i he e.symm))
  refine ⟨⟨g.os.trans h1.1, g.tape.trans h1.2.1, g.output.trans h1.2.2.1, by simpa using Nat.le_trans h1.2.2.2.1 g.size, fun i hi hx' hw' => ?_⟩, h2, (Below.heap_setCell _ _ _ _ h2.2.2).trans (hx.trans h3), (set_block (hw.trans h4)).trans rfl, key _ _ _ _ h5 (own_block_ne h5 h6 (by decide)), ?_, key _ _ _ _ h7 (fun i hi e => h8 i e hi), ?_⟩
  · exact (Below.heap_setCell _ _ _ _ hw').trans ((g.block i (Nat.lt_of_lt_of_le hi h1.2.2.2.1) (fun e => old i hi e.symm)).trans (h1.2.2.2.2 i hi hx' hw'))
  · rw [List.length_append, bools_append]
    exact own_of hown fun i hb hi _ => Below.heap_setCell _ _ _ _ (by show i ≠ c.wb; have := h2.2.1; omega)
  · intro i hi e
    rcases hat i hi with h' | h'
    · exact h8 i h' e
    · have := (h7.lt i e).2; omega

theorem StL.grown_wb {c : Cfg} {k ends : Nat} {log : List Int} {lv cv ov : Value} {cs os : List Bool} {w w' : World} (h : StL c k ends log lv cv cs ov os w) (g : w.grownBy w' cv.ownBlock) : WB c cv ov w' :=
  (g.block _ h.lt.2 (fun e => by have := (h.2.2.2.2.2.1).lt _ e.symm; have := h.2.1.2.1; omega)).trans h.2.2.2.1

theorem bools_one (l : List Bool) : ∀ u ∈ bools l, u.oneCell' = true := fun u hu => by
  obtain ⟨x, _, rfl⟩ := List.mem_map.1 hu
  rfl
theorem newsB {w w' : World} (b : Bool) (hp : w'.heap = w.heap.push (.cells #[.bool b] 4)) : ∀ j u, (bools [b])[j]? = some u → w'.cell? ((⟨w.heap.size, 0, none⟩ : Addr).add j) = some u :=
  World.news_of_block (cs := #[.bool b]) (t := 4) (fr := (0, 0)) (by rw [hp]; simp)

/-- w.others is stored anew. -/
theorem StL.reov {c : Cfg} {k ends : Nat} {log : List Int} {lv cv ov ov' : Value} {cs os os' : List Bool} {w : World} (h : StL c k ends log lv cv cs ov os w) (hown : w.ownsRow c.w0.heap.size 4 1 ov' os'.length (bools os')) (hap : Apart cv ov') :
    StL c k ends log lv cv cs ov' os' (w.setCell ⟨c.wb, 3, none⟩ ov') := by
  obtain ⟨h1, h2, h3, h4, h5, h6, h7, h8⟩ := h
  have key : ∀ (e n : Nat) (v : Value) (xs : List Value), w.ownsRow c.w0.heap.size e 1 v n xs → (w.setCell ⟨c.wb, 3, none⟩ ov').ownsRow c.w0.heap.size e 1 v n xs := fun e n v xs hv =>
    own_of hv fun i hb hi _ => Below.heap_setCell _ _ _ _ (by show i ≠ c.wb; have := h2.2.1; omega)
  exact ⟨h1.trans (Fr.setW c w 3 _), h2, (Below.heap_setCell _ _ _ _ h2.2.2).trans h3, (set_block h4).trans rfl, key _ _ _ _ h5, key _ _ _ _ h6, key _ _ _ _ hown, hap⟩
/-- A row that is the call's own has grown: the state behind it, the row left out. -/
theorem StL.grownOv {c : Cfg} {k ends : Nat} {log : List Int} {lv cv ov : Value} {cs os : List Bool} {w w' : World} (h : StL c k ends log lv cv cs ov os w) (g : w.grownBy w' ov.ownBlock) : StL c k ends log lv cv cs ov os w → WB c cv ov w' ∧ XB c k ends lv w' := fun _ => by
  have lt := h.lt
  obtain ⟨h1, h2, h3, h4, h5, h6, h7, h8⟩ := h
  have old : ∀ i, i < c.w0.heap.size → ov.ownBlock ≠ some i := fun i hi e => by have := h7.lt i e; omega
  exact ⟨(g.block _ lt.2 (fun e => old _ h2.2.1 e.symm)).trans h4, (g.block _ lt.1 (fun e => old _ h2.1 e.symm)).trans h3⟩
/-- w.others has grown; it is stored anew. -/
theorem StL.setOthers {c : Cfg} {k ends : Nat} {log : List Int} {lv cv ov ov' : Value} {cs news os : List Bool} {w w' : World} (h : StL c k ends log lv cv cs ov os w) (g : w.grownBy w' ov.ownBlock) (hown : w'.ownsRow c.w0.heap.size 4 1 ov' (os.length + news.length) (bools os ++ bools news))
    (hat : ∀ i, ov'.ownBlock = some i → ov.ownBlock = some i ∨ w.heap.size ≤ i) :
    StL c k ends log lv cv cs ov' (os ++ news) (w'.setCell ⟨c.wb, 3, none⟩ ov') := by
  have lt := h.lt
  have hb := h.grownOv g h
  obtain ⟨h1, h2, h3, h4, h5, h6, h7, h8⟩ := h
  have old : ∀ i, i < c.w0.heap.size → ov.ownBlock ≠ some i := fun i hi e => by have := h7.lt i e; omega
  have key : ∀ (e n : Nat) (v : Value) (xs : List Value), w.ownsRow c.w0.heap.size e 1 v n xs → (∀ i, v.ownBlock = some i → ov.ownBlock ≠ some i) → (w'.setCell ⟨c.wb, 3, none⟩ ov').ownsRow c.w0.heap.size e 1 v n xs := fun e n v xs hv hne =>
    own_of hv fun i hb hi he => (Below.heap_setCell _ _ _ _ (by show i ≠ c.wb; omega)).trans (g.block i hi (fun e => hne i he e.symm))
  refine ⟨⟨g.os.trans h1.1, g.tape.trans h1.2.1, g.output.trans h1.2.2.1, by simpa using Nat.le_trans h1.2.2.2.1 g.size, fun i hi hx' hw' => ?_⟩, h2, (Below.heap_setCell _ _ _ _ h2.2.2).trans hb.2, (set_block hb.1).trans rfl, key _ _ _ _ h5 (own_block_ne h5 h7 (by decide)), key _ _ _ _ h6 (fun i hi e => h8 i hi e), ?_, ?_⟩
  · exact (Below.heap_setCell _ _ _ _ hw').trans ((g.block i (Nat.lt_of_lt_of_le hi h1.2.2.2.1) (fun e => old i hi e.symm)).trans (h1.2.2.2.2 i hi hx' hw'))
  · rw [List.length_append, bools_append]
    exact own_of hown fun i hb hi _ => Below.heap_setCell _ _ _ _ (by show i ≠ c.wb; have := h2.2.1; omega)
  · intro i hi e
    rcases hat i e with h' | h'
    · exact h8 i hi h'
    · have := (h6.lt i hi).2; omega
/-- A row of bools that is the call's own: its elements. -/
theorem own_elems {w : World} {base : Nat} {v : Value} {os : List Bool} (h : w.ownsRow base 4 1 v os.length (bools os)) : ∃ A cap, v = .slice A os.length cap ∧ Elems w A os.length (fun j => .bool (os.getD j false)) := by
  rcases h.2 with ⟨rfl, h0⟩ | ⟨g, cap, cur, rfl, hb, hg, r⟩
  · exact ⟨none, 0, by rw [h0], fun hp => absurd hp (by omega)⟩
  · refine ⟨some ⟨g, 0, none⟩, cap, rfl, fun _ => ⟨g, 0, rfl, (h.lt g rfl).2, fun j hj => ?_⟩⟩
    rw [Nat.zero_add, h.cellAt j (by omega)]
    simp [bools, List.getD_eq_getElem?_getD, List.getElem?_eq_getElem hj]
theorem own_cell {w : World} {base g n cap : Nat} {os : List Bool} (h : w.ownsRow base 4 1 (.slice (some ⟨g, 0, none⟩) n cap) os.length (bools os)) (hn : os.length = n) (j : Nat) (hj : j < n) : w.cell? ⟨g, j, none⟩ = some (.bool (os.getD j false)) := by
  subst hn
  rw [h.cellAt j (by omega)]
  simp [bools, List.getD_eq_getElem?_getD, List.getElem?_eq_getElem hj]
theorem all_range (os : List Bool) : ((List.range os.length).all fun j => !os.getD j false) = os.all fun b => !b := by
  have e : (List.range os.length).map (fun j => os.getD j false) = os := by
    apply List.ext_getElem?
    intro j
    rw [List.getElem?_map]
    by_cases hj : j < os.length
    · rw [List.getElem?_range hj]; simp [List.getD_eq_getElem?_getD, List.getElem?_eq_getElem hj]
    · rw [List.getElem?_eq_none (by simpa using hj), List.getElem?_eq_none (by omega)]; rfl
  conv => rhs; rw [← e]
  rw [List.all_map]
  rfl

theorem own_cap {w : World} {base e m n g cap : Nat} {xs : List Value} (h : w.ownsRow base e 1 (.slice (some ⟨g, 0, none⟩) n cap) m xs) : m ≤ cap ∧ cap ≤ 9223372036854775807 := by
  rcases h.2 with ⟨e, _⟩ | ⟨g', cap', cur, e, _, _, hc, hm, _⟩
  · cases e
  · simp only [Value.slice.injEq, Option.some.injEq, Addr.mk.injEq] at e
    unfold maxLen at hm
    omega
theorem own_zero {w : World} {base e m g cap : Nat} {n : Nat} {xs : List Value} (h : w.ownsRow base e 1 (.slice (some ⟨g, 0, none⟩) n cap) m xs) : w.ownsRow base e 1 (.slice (some ⟨g, 0, none⟩) 0 cap) 0 [] := by
  refine ⟨rfl, ?_⟩
  rcases h.2 with ⟨e, _⟩ | ⟨g', cap', cur, e, hb, hg, hc, hm, hs, _⟩
  · cases e
  · simp only [Value.slice.injEq, Option.some.injEq, Addr.mk.injEq, and_true] at e
    obtain ⟨rfl, rfl, rfl⟩ := e
    exact .inr ⟨g, cap, cur, rfl, hb, hg, Nat.zero_le _, hm, hs, by simp⟩

theorem hat_of {ov : Value} {g3 n cap3 H : Nat} (hat : ov.ownBlock = some g3 ∨ g3 = H) : ∀ i, (Value.slice (some ⟨g3, 0, none⟩) n cap3).ownBlock = some i → ov.ownBlock = some i ∨ H ≤ i := by
  intro i hi
  have e : g3 = i := by simpa [Value.ownBlock] using hi
  subst e
  rcases hat with h | h
  · exact .inl h
  · exact .inr (by omega)

/-- conds[i] = b -/
theorem StL.condSet {c : Cfg} {k ends g cap n i : Nat} {log : List Int} {lv ov : Value} {cs os : List Bool} {w : World} {b : Bool} (h : StL c k ends log lv (.slice (some ⟨g, 0, none⟩) n cap) cs ov os w) (hn : cs.length = n) :
    StL c k ends log lv (.slice (some ⟨g, 0, none⟩) n cap) (cs.set i b) ov os (w.setCell ⟨g, i, none⟩ (.bool b)) := by
  subst hn
  obtain ⟨h1, h2, h3, h4, h5, h6, h7, h8⟩ := h
  have hg := (h6.lt g rfl).1
  have nx : c.xb ≠ g := by have := h2.1; omega
  have nw : c.wb ≠ g := by have := h2.2.1; omega
  have key : ∀ (e n : Nat) (v : Value) (xs : List Value), w.ownsRow c.w0.heap.size e 1 v n xs → (∀ i, v.ownBlock = some i → i ≠ g) → (w.setCell ⟨g, i, none⟩ (.bool b)).ownsRow c.w0.heap.size e 1 v n xs := fun e n v xs hv hne =>
    own_of hv fun i hb hi he => Below.heap_setCell _ _ _ _ (hne i he)
  refine ⟨⟨h1.1, h1.2.1, h1.2.2.1, by simpa using h1.2.2.2.1, fun j hj hx' hw' => ?_⟩, h2, (Below.heap_setCell _ _ _ _ nx).trans h3, (Below.heap_setCell _ _ _ _ nw).trans h4, key _ _ _ _ h5 (fun j hj e => by subst e; exact own_block_ne h5 h6 (by decide) j hj rfl), ?_, key _ _ _ _ h7 (fun j hj e => by subst e; exact h8 j rfl hj), h8⟩
  · exact (Below.heap_setCell _ _ _ _ (by show j ≠ g; omega)).trans (h1.2.2.2.2 j hj hx' hw')
  · have := (h6.stored i (.bool b)).1
    rw [List.length_set]
    simpa [bools, List.map_set] using this
end Go.Proofs.YbulkcwciFmt
