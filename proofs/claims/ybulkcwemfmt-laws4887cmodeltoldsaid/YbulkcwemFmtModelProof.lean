import Derived.Test.YbulkcwemFmtRows
import Derived.Test.YbulkcwemFmtTie
import Derived.Test.YbulkcwemFmtCards
import Derived.Test.YbulkcwemFmtLawModel
import Derived.ProofKit
import Derived.Stop.JoinedAt
import Derived.Stop.Texts
import Derived.Stop.ErrReads
import Derived.Stop.LaidErr
import Derived.Stop.JoinedTold
import Derived.SizedLaws
import Derived.SevenTiedAt
namespace Go.Proofs.YbulkcwemFmt
open Go.ChangeShapes Go.WideShapes Go.ChangeAt Go.RowKit Go.Kit
open Go.ChangeMaps (open_string shut_string)
open Go.Extern.Stop Go.Stop Go.Extern

theorem Ybaf.own : ownKnob Ybaf.prog.godebug = none := by kernel_rfl
theorem Ybaf.laidOut : laidOutB Ybaf.pinned.checked.prog = true := by kernel_rfl
theorem Ybaf.laidOut' : laidOutB Ybaf.prog = true := by kernel_rfl
theorem Ybaf.stops : Ybaf.pinned.checked.prog.stops = ["fmt.Sprintf", "fmt.errorf"] := by kernel_rfl
theorem Ybaf.stopKnobs : Ybaf.pinned.checked.prog.stopKnobs = [] := by kernel_rfl
theorem Ybaf.quiet (os : Os) : Stop.quiet Ybaf.pinned.checked.prog os := by
  intro k hk
  rw [Ybaf.stopKnobs] at hk
  cases hk

/-- The name of the listed variable. -/
abbrev errName : String := Rows.lawS4887CModelSpec.vars.getD 0 ""
theorem gS : Ybaf.prog.globalNamed errName = some 0 := by kernel_rfl
theorem gSType : (Ybaf.prog.globals[0]?).map (·.type) = some 39 := by kernel_rfl
theorem cells96 : Ybaf.prog.cellsOf 96 = 1 := by kernel_rfl
theorem cells9 : Ybaf.prog.cellsOf 9 = 1 := by kernel_rfl
theorem cells5 : Ybaf.prog.cellsOf 5 = 1 := by kernel_rfl
theorem bytes5 : Ybaf.prog.bytesOf 5 = 1 := by kernel_rfl
theorem star : "*" ++ "errors.errorString" = "*errors.errorString" := by decide
theorem row94 (u : TypeId) (h : Ybaf.prog.typeName? 3 u = some "*errors.errorString") : u = 94 :=
  typeName_ptr_named (nm := "errors.errorString") (by rw [star]; kernel_rfl) (by kernel_rfl) (by decide) u (by rw [star]; exact h)

abbrev protoS : ByteArray := { data := #[109, 121, 115, 113, 108, 58, 32, 112, 114, 111, 116, 111, 99, 111, 108, 32, 118, 105, 111, 108, 97, 116, 105, 111, 110] }
def lowOf (P : Program) : Nat := (World.holding P default ⟨#[], #[], []⟩).heap.size
def laidWorldOf (P : Program) (os : Os) : World :=
  { World.holding P os ⟨#[.cells #[.string protoS] 96], #[], []⟩ with heap := (World.holding P os ⟨#[.cells #[.string protoS] 96], #[], []⟩).heap.modify 0 fun
      | .cells _ t frozen => .cells #[.iface 94 (.pointer (some ⟨lowOf P, 0, none⟩))] t frozen
      | o => o }
theorem laid_met (os : Os) (args : Array Value) : laidMet Ybaf.prog Rows.lawS4887CModelRow.laid ((laidWorldOf Ybaf.prog os).forCall (fun _ _ => 0) ⟨#[], args, []⟩).memory :=
  laidMet_of_run (ps := [.cell 0 0, .cell (lowOf Ybaf.prog) 0]) 8 (by kernel_rfl) (by kernel_rfl) (by kernel_rfl)

theorem var?_below {P : Program} {B g : Nat} {W W' : World} {n : String} {cs : Array Value} (h : Below B W W') (hg : P.globalNamed n = some g) (hgB : g < B) (hv : W.var? P n = some cs) : W'.var? P n = some cs := by
  unfold World.var? at hv ⊢
  simp only [hg, Option.bind_some] at hv ⊢
  rw [h.block g hgB]
  exact hv

/-- A slice of bytes that the row reads: its cells. -/
theorem bytes_of_trod {H : Type} {enc : TypeId × Value → H} {W : World} {a0 : Option Addr} {len cap : Nat} {d0 : DataW H} {p : List MemPlace} {ts : List TypeId} {ds : List (DataW H)} {j : Nat} {base : Nat} {held : Bool}
    (hj : ts[j]? = some 22) (hd : ds[j]? = some d0)
    (hsz : (DataW.weightsEach Ybaf.prog ts ds).all (· ≤ reachBytes) = true)
    (h0 : DataW.Trod enc Ybaf.prog W base (fun _ => true) held 22 (.slice a0 len cap) d0 p) :
    ∃ P : Nat → Nat, Bytes W a0 len P ∧ len ≤ cap ∧ cap ≤ 1152921504606846976 := by
  obtain ⟨fuel, hf⟩ := h0
  rcases open_ints Ybaf.underlying22 Ybaf.underlying5 cells5 hf with ⟨hcs, hx⟩ | ⟨a, len', cap', zs, hcs, _, hl, hm, hz, hx, hcell, hwz⟩
  · simp [Value.cells] at hcs
    obtain ⟨rfl, rfl, rfl⟩ := hcs
    exact ⟨fun _ => 0, ⟨fun j hj => by omega, fun h => absurd h (by omega)⟩, Nat.le_refl _, by omega⟩
  · simp [Value.cells] at hcs
    obtain ⟨rfl, rfl, rfl⟩ := hcs
    simp only [Prod.mk.injEq] at hx
    obtain ⟨rfl, rfl⟩ := hx
    simp only [if_true] at hz
    have hb := sized_slice hsz hj hd Ybaf.underlying22
    rw [bytes5] at hb
    simp only [lits, List.length_map, List.length_take, List.length_drop] at hb
    have hwn : ∀ n ∈ zs, 0 ≤ n ∧ n < 256 := fun n hn => by
      have := hwz n hn
      simp [Lit.wf, IntKind.min, IntKind.max, IntKind.signed, IntKind.bits] at this
      omega
    have hwf : ∀ i, i < zs.length → 0 ≤ zs.getD i 0 ∧ zs.getD i 0 < 256 := fun i hi =>
      hwn (zs.getD i 0) (by rw [List.getD_eq_getElem?_getD, List.getElem?_eq_getElem hi, Option.getD_some]; exact List.getElem_mem _)
    refine ⟨fun i => (zs.getD i 0).toNat, ⟨fun j hj => ?_, fun hpos => ?_⟩, hl, ?_⟩
    · have := hwf j (by omega)
      show (zs.getD j 0).toNat < 256
      omega
    · obtain ⟨b, o, spot⟩ := a
      have h0' := hcell 0 (by omega)
      have hspot : spot = none := by simpa [Addr.add] using World.cell?_spot h0'
      subst hspot
      refine ⟨b, o, rfl, World.block_lt_of_cell? _ _ (by simpa [Addr.add] using h0'), fun j hj => ?_⟩
      have := hcell j (by omega)
      have hw := hwf j (by omega)
      have e : ((zs.getD j 0).toNat : Int) = zs.getD j 0 := Int.toNat_of_nonneg hw.1
      show W.cell? ⟨b, o + j, none⟩ = some (.int .u8 ((zs.getD j 0).toNat : Int))
      rw [e]
      by_cases ej : j = 0
      · subst ej; simpa [Addr.add] using this
      · simpa [Addr.add, ej] using this
    · unfold reachBytes at hb
      omega

set_option maxRecDepth 100000 in
theorem model_lifted (os : Os) (started : os.Started) (H : Type) (enc : TypeId × Value → H) :
    ReturnsInTold none {} Ybaf.checked os 5 .any Input.okWide ((OpenSpec.ofChange Rows.lawS4887CModelSpec).preRow enc Ybaf.prog Ybaf.f5 [] false Rows.lawS4887CModelRow.laid) (fun F => ((OpenSpec.ofChange Rows.lawS4887CModelSpec).at F).post enc Ybaf.prog Ybaf.f5 false true false false) (aloneAtReturn Ybaf.prog) nothingAlways := by
  refine returnsInTold_of_row (C := Ybaf.checked) (s := OpenSpec.ofChange Rows.lawS4887CModelSpec) (by kernel_rfl) Ybaf.own started (by kernel_rfl) Ybaf.func5
    (OpenSpec.witness_stopped_at (enc := enc) (C := Ybaf.checked) false (laidWorldOf Ybaf.prog os) #[.slice none 0 0] rfl (by kernel_rfl) (by kernel_rfl) (by kernel_rfl)
      (OpenSpec.preRow_of_B rfl 8 (by kernel_rfl) (by kernel_rfl) (laid_met os _))) ?_
  intro F W base args ds gs before _ hF hval0 hW _ _ hsz hL _
  have hval : ∀ (j : Nat) t v, Ybaf.f5.params[j]? = some t → args[j]? = some v → Value.okWide Ybaf.prog W .any base t v := hval0
  have hW' := hW
  obtain ⟨p, q, hA0, hV0, rfl, hfz, hnd⟩ := hW
  have hA : DataW.TrodAll enc Ybaf.prog W 0 (fun _ => true) true Ybaf.f5.params.toList args.toList ds p := hA0
  have hV : DataW.TrodVars enc Ybaf.prog W (fun _ => true) [errName] gs q := hV0
  rw [Ybaf.params5] at hA hval
  obtain ⟨v0, d0, rfl, rfl, h0⟩ := trodAll_one hA
  obtain ⟨a0, len, cap, rfl⟩ := okWide_slice Ybaf.underlying22 (hval 0 22 v0 rfl rfl)
  have lt0 : ∀ x ∈ p, x.block < W.heap.size := by obtain ⟨m, hm⟩ := h0; exact DataW.trod_lt m _ _ _ hm
  obtain ⟨P, hB, hn, hC⟩ := bytes_of_trod (j := 0) rfl rfl hsz h0
  obtain ⟨a1, s1, hv1, hc1, hs1, hz1⟩ := laid_sentinel hL gS gSType Ybaf.underlying39 row94 Ybaf.underlying94 Ybaf.underlying96 rfl rfl Ybaf.underlying9 cells96 cells9
  obtain ⟨rfl, rfl⟩ := hV.unique (vars_read1 enc gS gSType Ybaf.underlying39 hv1 trivial _)
  clear hA0 hV0 hval0
  have hg1 : W.cell? ⟨0, 0, none⟩ = some (.iface 94 (.pointer (some a1))) := by simpa using World.var?_cell gS hv1 0
  refine (lawModel_walk F.told a0 len cap P a1 s1 W hF hn (by omega) hB ⟨hg1, hc1⟩).mono fun e W' ⟨he, bel⟩ => ?_
  subst he
  refine ⟨_, rfl, _, _, _, [], p, [.cell 0 0], hW', ?_, ?_, ?_, bel.frame _, fun h => by cases h⟩
  · exact trodAll_mk1 (shut_bool Ybaf.underlying4 _)
  · exact trodAll_mk1 (Below.trod Ybaf.laidOut' (by kernel_rfl) (of_decide_eq_true (by kernel_rfl)) h0 bel lt0)
  · exact vars_read1 enc gS gSType Ybaf.underlying39 (var?_below bel gS (World.block_lt_of_cell? _ _ hg1) hv1) trivial _

theorem model_proved : Rows.LawS4887CModelToldSaid :=
  Claim7.holds_of_told_tied_any_at .later 5 Ybaf.f5 "fmt.Sprintf" ["fmt.errorf"] [] _ _ _ _ _ (by kernel_rfl) rfl rfl rfl Ybaf.laidOut (by kernel_rfl) rfl ⟨rfl, rfl, rfl, rfl, rfl, rfl, rfl⟩ rfl rfl (by kernel_rfl) (by kernel_rfl) Ybaf.func5 (by kernel_rfl)
    (of_decide_eq_true (by kernel_rfl)) (of_decide_eq_true (by kernel_rfl)) Ybaf.stops.symm rfl Ybaf.stopKnobs.symm (by kernel_rfl)
    (by kernel_rfl) (by kernel_rfl) (by kernel_rfl) (by kernel_rfl) (by kernel_rfl) (by kernel_rfl) (by kernel_rfl) (by kernel_rfl) (by kernel_rfl) rfl (by kernel_rfl) rfl rfl
    rfl rfl
    rfl (by kernel_rfl) (by kernel_rfl) (by kernel_rfl) (by decide) (by kernel_rfl) lawS4887CModel_row_tie
    (OpenClaim.moreEntering_of (by kernel_rfl) (by kernel_rfl) (by kernel_rfl) (by kernel_rfl) (by kernel_rfl) (by kernel_rfl) (by kernel_rfl) (by kernel_rfl) (by kernel_rfl) (by kernel_rfl))
    ⟨_, WideRow.started_initial, Ybaf.quiet _⟩
    (fun os started _ H enc _ => model_lifted os started H enc)
end Go.Proofs.YbulkcwemFmt
