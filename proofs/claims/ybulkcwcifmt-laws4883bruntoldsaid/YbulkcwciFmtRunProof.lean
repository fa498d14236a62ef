import Derived.Test.YbulkcwciFmtRows
import Derived.Test.YbulkcwciFmtCards
import Derived.Test.YbulkcwciFmtLaw
import Derived.Test.YbulkcwciFmtRead
import Derived.Stop.JoinedAt
import Derived.Stop.Texts
import Derived.Stop.JoinedTold
import Derived.SevenToldRow
import Derived.ChangeOld
namespace Go.Proofs.YbulkcwciFmt
open Go.ChangeShapes Go.WideShapes Go.ChangeAt Go.RowKit Go.Deep
open Go.Extern.Stop Go.Stop Go.Extern

theorem Ybaf.own : ownKnob Ybaf.prog.godebug = none := by kernel_rfl
theorem Ybaf.laidOut : laidOutB Ybaf.pinned.checked.prog = true := by kernel_rfl
theorem Ybaf.laidOut' : laidOutB Ybaf.prog = true := by kernel_rfl
theorem Ybaf.stops : Rows.lawS4883BRunRow.stops = Ybaf.pinned.checked.prog.stops := by kernel_rfl
theorem Ybaf.stopKnobs : Ybaf.pinned.checked.prog.stopKnobs = [] := by kernel_rfl
theorem Ybaf.quiet (os : Os) : Stop.quiet Ybaf.pinned.checked.prog os := by
  intro k hk
  rw [Ybaf.stopKnobs] at hk
  cases hk

set_option maxRecDepth 100000 in
theorem run_lifted (os : Os) (started : os.Started) (H : Type) (enc : TypeId × Value → H) :
    ReturnsInTold none {} Ybaf.checked os 3 .any Input.okWide ((OpenSpec.ofChange Rows.lawS4883BRunSpec).preRow enc Ybaf.prog Ybaf.f3 [] false Rows.lawS4883BRunRow.laid) (fun F => ((OpenSpec.ofChange Rows.lawS4883BRunSpec).at F).post enc Ybaf.prog Ybaf.f3 false true false false) (aloneAtReturn Ybaf.prog) nothingAlways := by
  refine returnsInTold_of_row (C := Ybaf.checked) (s := OpenSpec.ofChange Rows.lawS4883BRunSpec) (by kernel_rfl) Ybaf.own started (by kernel_rfl) Ybaf.func3
    (OpenSpec.witness_stopped (enc := enc) (C := Ybaf.checked) false ⟨#[], #[.slice none 0 0, .int .u16 0, .slice none 0 0, .int .u8 0], []⟩ 8 (by kernel_rfl) (by kernel_rfl) (by kernel_rfl) (by kernel_rfl)) ?_
  intro F W base args ds gs before _ hF hval0 hW _ _ hsz hL _
  have hval : ∀ (j : Nat) t v, Ybaf.f3.params[j]? = some t → args[j]? = some v → Value.okWide Ybaf.prog W .any base t v := hval0
  have hW' := hW
  obtain ⟨p, q, hA0, hV, rfl, hfz, hnd⟩ := hW
  have hA : DataW.TrodAll enc Ybaf.prog W 0 (fun _ => true) true Ybaf.f3.params.toList args.toList ds p := hA0
  rw [Ybaf.params3] at hA hval
  obtain ⟨v0, vs0, d0, ds0, p0, q0, hargs, rfl, rfl, h0, r0⟩ := trodAll_cons hA
  obtain ⟨v1, vs1, d1, ds1, p1, q1, rfl, rfl, rfl, h1, r1⟩ := trodAll_cons r0
  obtain ⟨v2, vs2, d2, ds2, p2, q2, rfl, rfl, rfl, h2, r2⟩ := trodAll_cons r1
  obtain ⟨v3, vs3, d3, ds3, p3, q3, rfl, rfl, rfl, h3, r3⟩ := trodAll_cons r2
  obtain ⟨rfl, rfl, rfl⟩ := trodAll_nil r3
  obtain rfl : args = #[v0, v1, v2, v3] := by cases args; simp_all
  obtain ⟨rfl, rfl⟩ := trodVars_none hV
  obtain ⟨x1, rfl, rfl, rfl, wx1⟩ := open_int Ybaf.underlying23 (hval 1 23 v1 rfl rfl) h1
  obtain ⟨a2, len2, cap2, rfl⟩ := okWide_slice Ybaf.underlying24 (hval 2 24 v2 rfl rfl)
  obtain ⟨x3, rfl, rfl, rfl, wx3⟩ := open_int Ybaf.underlying5 (hval 3 5 v3 rfl rfl) h3
  obtain ⟨b0, l0, c0, rfl⟩ := okWide_slice Ybaf.underlying22 (hval 0 22 v0 rfl rfl)
  have k0 := h0
  have k2 := h2
  have lt0 : ∀ x ∈ p0, x.block < W.heap.size := by obtain ⟨m, hm⟩ := k0; exact DataW.trod_lt m _ _ _ hm
  have lt2 : ∀ x ∈ p2, x.block < W.heap.size := by obtain ⟨m, hm⟩ := k2; exact DataW.trod_lt m _ _ _ hm
  have hw0 : ∀ n ∈ d0.weights Ybaf.prog 22, n ≤ reachBytes := fun n hn => by
    have := List.all_eq_true.1 hsz n (DataW.weights_mem_each (j := 0) (t := 22) rfl rfl n hn)
    simpa using this
  obtain ⟨L, lc, LA, hv, hLA, hlen⟩ : ∃ L lc LA, Value.slice b0 l0 c0 = .slice LA L.length lc ∧ LocsAt W (Value.slice b0 l0 c0) L ∧ ∀ i, i < L.length → (L.getD i []).length ≤ 140737488355328 := by
    obtain ⟨fuel, hf⟩ := h0
    exact read_locs (x := (d0, p0)) hf hw0
  obtain ⟨G, hG⟩ : ∃ G : Nat → Bool, Elems W a2 len2 (fun j => .bool (G j)) := by
    obtain ⟨fuel, hf⟩ := h2
    rcases open_bools Ybaf.underlying24 Ybaf.underlying4 cells4 hf with ⟨hcs, _⟩ | ⟨x, l, c, G, hcs, _, hl, hm, _, hcell⟩
    · simp [Value.cells] at hcs
      obtain ⟨rfl, rfl, rfl⟩ := hcs
      exact ⟨fun _ => false, fun h => absurd h (by omega)⟩
    · simp [Value.cells] at hcs
      obtain ⟨rfl, rfl, rfl⟩ := hcs
      exact ⟨G, elems_of (fun j hj => hcell j (by omega))⟩
  obtain ⟨z1, hz1, rfl⟩ := u16_of wx1
  obtain ⟨z3, hz3, rfl⟩ := u8_of wx3
  clear hA0 hval0
  rw [hv] at hLA
  have key := law_walk F.told W hF L LA lc hLA hlen z1 hz1 a2 len2 cap2 G hG z3 hz3
  rw [← hv] at key
  refine key.mono fun e W' ⟨he, bel⟩ => ?_
  subst he
  exact ⟨_, rfl, _, _, _, [], _, [], hW', trodAll_mk1 (shut_bool Ybaf.underlying4 _), (trodAll_cons_mk (Below.trod Ybaf.laidOut' (by kernel_rfl) (of_decide_eq_true (by kernel_rfl)) k0 bel lt0) (trodAll_cons_mk (shut_int Ybaf.underlying23 wx1) (trodAll_cons_mk (Below.trod Ybaf.laidOut' (by kernel_rfl) (of_decide_eq_true (by kernel_rfl)) k2 bel lt2) (trodAll_cons_mk (shut_int Ybaf.underlying5 wx3) trodAll_mk0)))), rfl, bel.frame _, fun h => by cases h⟩

theorem run_proved : Rows.LawS4883BRunToldSaid :=
  Claim7.holds_of_told_any 3 Ybaf.f3 _ _ [] _ _ _ (by kernel_rfl) rfl rfl rfl Ybaf.laidOut (by kernel_rfl) rfl ⟨rfl, rfl, rfl, rfl, rfl, rfl, rfl⟩ rfl rfl (by kernel_rfl) (by kernel_rfl) Ybaf.func3 (by kernel_rfl)
    (of_decide_eq_true (by kernel_rfl)) (of_decide_eq_true (by kernel_rfl)) Ybaf.stops rfl Ybaf.stopKnobs.symm (by kernel_rfl)
    (by kernel_rfl) (by kernel_rfl) (by kernel_rfl) (by kernel_rfl) (by kernel_rfl) (by kernel_rfl) (by kernel_rfl) (by kernel_rfl) (by kernel_rfl) rfl (by kernel_rfl) rfl rfl
    rfl rfl
    rfl (by kernel_rfl) (by kernel_rfl) (by kernel_rfl) (by decide) (by kernel_rfl)
    (OpenClaim.moreEntering_of (by kernel_rfl) (by kernel_rfl) (by kernel_rfl) (by kernel_rfl) (by kernel_rfl) (by kernel_rfl) (by kernel_rfl) (by kernel_rfl) (by kernel_rfl) (by kernel_rfl))
    ⟨_, WideRow.started_initial, Ybaf.quiet _⟩
    (fun os started _ H enc _ => run_lifted os started H enc)
end Go.Proofs.YbulkcwciFmt
