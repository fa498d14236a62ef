import Derived.Test.YbulkcwciRows
import Derived.Test.YbulkcwciResult
import Derived.ProofKit
import Derived.Deep.Grids
import Derived.ChangeOld
namespace Go.Proofs.Ybulkcwci
open Go.ChangeShapes Go.WideShapes Go.ChangeAt Go.RowKit Go.Deep

set_option maxHeartbeats 400000 in
set_option maxRecDepth 100000 in
theorem result_many (na : Option Addr) (v1 v2 v3 : Value) (n nc : Nat) (w : World) (hn : 1024 < n) :
    Calls Yba.prog 3 #[.slice na n nc, v1, v2, v3] w fun e w' => e = .returned (.bool true) ∧ Below w.heap.size w w' := by
  have hn2 : (1024 : Int) < (n : Int) := by omega
  go_enter Yba.func3, Yba.ntmps3
  go_wp2
  go_ret
  exact ⟨rfl, Below.refl _ _⟩

theorem result_any (na fa : Option Addr) (n nc m fc s : Nat) (ff : Bool) (Z : Nat → Nat) (G : Nat → Bool) (w : World) (hm : m ≤ 9223372036854775807) (hs : s < 256) (hZ : ∀ j, j < n → Z j < 256)
    (hk : Elems w na n (fun j => .int .u8 (Z j))) (ha : Elems w fa m (fun j => .bool (G j))) :
    Calls Yba.prog 3 #[.slice na n nc, .slice fa m fc, .int .u8 s, .bool ff] w fun e w' => e = .returned (.bool true) ∧ Below w.heap.size w w' := by
  by_cases h1 : n ≤ 1024
  · exact result_walk na fa n nc m fc s ff Z G w h1 hm hs hZ hk ha
  · exact result_many na _ _ _ n nc w (by omega)

theorem Yba.own : ownKnob Yba.prog.godebug = none := by kernel_rfl
theorem Yba.laidOut : laidOutB Yba.prog = true := by kernel_rfl

theorem elems_of {w : World} {x : Addr} {n : Nat} {f : Nat → Value} (h : ∀ j, j < n → w.cell? (x.add j) = some (f j)) : Elems w (some x) n f := by
  intro hn
  obtain ⟨b, o, spot⟩ := x
  have h0 := h 0 hn
  have hspot : spot = none := by simpa [Addr.add] using World.cell?_spot h0
  subst hspot
  have h' : ∀ j, j < n → w.cell? ⟨b, o + j, none⟩ = some (f j) := fun j hj => by
    have := h j hj
    by_cases e : j = 0
    · subst e; simpa [Addr.add] using this
    · simpa [Addr.add, e] using this
  refine ⟨b, o, rfl, ?_, h'⟩
  have h1 := h' 0 hn
  simp only [World.cell?] at h1
  by_cases hlt : b < w.heap.size
  · exact hlt
  · rw [Array.getElem?_eq_none (by omega)] at h1
    cases h1

theorem u8_of {x : Int} (h : (Lit.int .u8 x).wf = true) : ∃ z : Nat, z < 256 ∧ x = z := by
  have hb : IntKind.u8.min ≤ x ∧ x ≤ IntKind.u8.max := by simpa [Lit.wf] using h
  have e1 : IntKind.u8.min = 0 := by decide
  have e2 : IntKind.u8.max = 255 := by decide
  rw [e1, e2] at hb
  exact ⟨x.toNat, by omega, by omega⟩

set_option maxRecDepth 100000 in
theorem result_lifted (os : Os) (started : os.Started) (H : Type) (enc : TypeId × Value → H) :
    ReturnsInHanded {} Yba.checked os 3 .any (Rows.lawS4883AResultSpec.pre6 enc Yba.prog Yba.f3 Rows.lawS4883AResultRow.domain false) (Rows.lawS4883AResultSpec.post enc Yba.prog Yba.f3 false true false false) := by
  refine returnsInHanded_of_change (C := Yba.checked) Yba.own started (by kernel_rfl) Yba.func3
    (ChangeSpec.witness6 (enc := enc) (C := Yba.checked) false ⟨#[], #[.slice none 0 0, .slice none 0 0, .int .u8 0, .bool false], []⟩ 8 (by kernel_rfl) (by kernel_rfl) (by kernel_rfl) (by kernel_rfl)) ?_
  intro W base args ds gs before hval0 hW hcnd _
  have hval : ∀ (j : Nat) t v, Yba.f3.params[j]? = some t → args[j]? = some v → Value.okWide Yba.prog W .any base t v := hval0
  have hW' := hW
  obtain ⟨p, q, hA0, hV, rfl, hfz, hnd⟩ := hW
  have hA : DataW.TrodAll enc Yba.prog W 0 (fun _ => true) true Yba.f3.params.toList args.toList ds p := hA0
  rw [Yba.params3] at hA hval
  obtain ⟨v0, vs0, d0, ds0, p0, q0, hargs, rfl, rfl, h0, r0⟩ := trodAll_cons hA
  obtain ⟨v1, vs1, d1, ds1, p1, q1, rfl, rfl, rfl, h1, r1⟩ := trodAll_cons r0
  obtain ⟨v2, vs2, d2, ds2, p2, q2, rfl, rfl, rfl, h2, r2⟩ := trodAll_cons r1
  obtain ⟨v3, vs3, d3, ds3, p3, q3, rfl, rfl, rfl, h3, r3⟩ := trodAll_cons r2
  obtain ⟨rfl, rfl, rfl⟩ := trodAll_nil r3
  obtain rfl : args = #[v0, v1, v2, v3] := by cases args; simp_all
  obtain ⟨rfl, rfl⟩ := trodVars_none hV
  obtain ⟨a0, len0, cap0, rfl⟩ := okWide_slice Yba.underlying22 (hval 0 22 v0 rfl rfl)
  obtain ⟨a1, len1, cap1, rfl⟩ := okWide_slice Yba.underlying23 (hval 1 23 v1 rfl rfl)
  obtain ⟨x2, rfl, rfl, rfl, wx2⟩ := open_int Yba.underlying5 (hval 2 5 v2 rfl rfl) h2
  obtain ⟨x3, rfl, rfl, rfl⟩ := open_bool Yba.underlying4 (hval 3 4 v3 rfl rfl) h3
  have k0 := h0
  have k1 := h1
  have lt0 : ∀ x ∈ p0, x.block < W.heap.size := by obtain ⟨m, hm⟩ := k0; exact DataW.trod_lt m _ _ _ hm
  have lt1 : ∀ x ∈ p1, x.block < W.heap.size := by obtain ⟨m, hm⟩ := k1; exact DataW.trod_lt m _ _ _ hm
  obtain ⟨Z, w0, hZ⟩ : ∃ Z : Nat → Nat, Elems W a0 len0 (fun j => .int .u8 (Z j)) ∧ ∀ j, j < len0 → Z j < 256 := by
    obtain ⟨fuel, hf⟩ := h0
    rcases open_ints Yba.underlying22 Yba.underlying5 (by kernel_rfl) hf with ⟨hcs, _⟩ | ⟨x, l, c, zs, hcs, _, hl, hm, hz, _, hcell, hwz⟩
    · simp [Value.cells] at hcs
      obtain ⟨rfl, rfl, rfl⟩ := hcs
      exact ⟨fun _ => 0, fun h => absurd h (by omega), fun j hj => absurd hj (by omega)⟩
    · simp [Value.cells] at hcs
      obtain ⟨rfl, rfl, rfl⟩ := hcs
      simp only [if_true] at hz
      have each : ∀ j, j < len0 → ∃ z : Nat, z < 256 ∧ zs.getD j 0 = z := fun j hj => u8_of (hwz _ (by
        rw [List.getD_eq_getElem?_getD, List.getElem?_eq_getElem (by omega), Option.getD_some]
        exact List.getElem_mem _))
      obtain ⟨Z, hZ⟩ := choose_lt each
      refine ⟨Z, elems_of (fun j hj => ?_), fun j hj => (hZ j hj).1⟩
      rw [hcell j (by omega), (hZ j hj).2]
  obtain ⟨G, w1, hm1⟩ : ∃ G : Nat → Bool, Elems W a1 len1 (fun j => .bool (G j)) ∧ len1 ≤ maxLen := by
    obtain ⟨fuel, hf⟩ := h1
    rcases open_bools Yba.underlying23 Yba.underlying4 (by kernel_rfl) hf with ⟨hcs, _⟩ | ⟨x, l, c, G, hcs, _, hl, hm, _, hcell⟩
    · simp [Value.cells] at hcs
      obtain ⟨rfl, rfl, rfl⟩ := hcs
      exact ⟨fun _ => false, fun h => absurd h (by omega), Nat.zero_le _⟩
    · simp [Value.cells] at hcs
      obtain ⟨rfl, rfl, rfl⟩ := hcs
      exact ⟨G, elems_of (fun j hj => hcell j (by omega)), by omega⟩
  obtain ⟨s, hs, rfl⟩ := u8_of wx2
  clear hA0 hval0
  refine (result_any a0 a1 len0 cap0 len1 cap1 s x3 Z G W (by unfold maxLen at hm1; omega) hs hZ w0 w1).mono fun e W' ⟨he, bel⟩ => ?_
  subst he
  exact ⟨_, rfl, _, _, _, [], _, [], hW', trodAll_mk1 (shut_bool Yba.underlying4 _), (trodAll_cons_mk (Below.trod Yba.laidOut (by kernel_rfl) (of_decide_eq_true (by kernel_rfl)) k0 bel lt0) (trodAll_cons_mk (Below.trod Yba.laidOut (by kernel_rfl) (of_decide_eq_true (by kernel_rfl)) k1 bel lt1) (trodAll_cons_mk (shut_int Yba.underlying5 wx2) (trodAll_cons_mk (shut_bool Yba.underlying4 x3) trodAll_mk0)))), rfl, bel.frame _, fun h => by cases h⟩

theorem result_proved : Rows.LawS4883AResultSaid :=
  OpenClaim.holds_of_wide 3 Yba.f3 rfl rfl rfl rfl rfl rfl rfl ⟨rfl, rfl, rfl, rfl, rfl⟩ rfl rfl rfl rfl rfl (by kernel_rfl) Yba.func3 (by kernel_rfl)
    (of_decide_eq_true (by kernel_rfl)) (by unfold Func.isWrapper; first | (rw [if_pos (by decide +kernel)]; kernel_rfl) | (rw [if_neg (by decide +kernel)]; exact ⟨rfl, rfl⟩))
    (fun os started H enc _ => result_lifted os started H enc)
end Go.Proofs.Ybulkcwci
