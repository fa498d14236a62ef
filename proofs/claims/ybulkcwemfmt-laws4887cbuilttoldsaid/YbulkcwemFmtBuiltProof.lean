import Derived.Test.YbulkcwemFmtModelProof
import Derived.Test.YbulkcwemFmtBuilt
import Derived.WideKeyArr2
namespace Go.Proofs.YbulkcwemFmt
open Go.ChangeShapes Go.WideShapes Go.ChangeAt Go.RowKit Go.Kit
open Go.ChangeMaps (open_string shut_string)
open Go.Extern.Stop Go.Stop Go.Extern

theorem arr46 : WideMaps.ArrKey Ybaf.prog 46 5 10 := ⟨Ybaf.underlying46, by kernel_rfl, cells5, by kernel_rfl⟩

/-- An array of ten bytes that the row reads. -/
theorem array_of_trod {H : Type} {enc : TypeId × Value → H} {W : World} {xs : Array Value} {d : DataW H} {p : List MemPlace} {base : Nat} {held : Bool} {sp : Nat → Bool}
    (h0 : DataW.Trod enc Ybaf.prog W base sp held 46 (.agg xs) d p) : ∃ TL : List Nat, xs.toList = row TL ∧ TL.length = 10 ∧ ∀ x ∈ TL, x < 256 := by
  obtain ⟨fuel, hf⟩ := h0
  obtain ⟨ys, m, rfl, _, hl, hy, hel⟩ := DataW.trod_array Ybaf.underlying46 hf
  rw [cells5] at hel
  have hc : (Value.agg xs).cells.toList = xs.toList := rfl
  rw [hc] at hl hel
  have hl' : xs.toList.length = 10 := hl.trans arr46.size
  have hv : ∀ v ∈ xs.toList, ∃ n : Nat, n < 256 ∧ v = .int .u8 (n : Int) := by
    intro v hv
    obtain ⟨i, hi, rfl⟩ := List.mem_iff_getElem.1 hv
    have h1 := hel i (by omega)
    rw [List.getElem?_eq_getElem (by omega : i < ys.length)] at h1
    obtain ⟨n, e, _, wf⟩ := DataW.trod_int Ybaf.underlying5 h1
    have e2 : (List.take 1 (List.drop (i * 1) xs.toList))[0]? = some xs.toList[i] := by
      rw [List.getElem?_take_of_lt (by omega), List.getElem?_drop, List.getElem?_eq_getElem (by omega)]
      simp
    rw [e] at e2
    have e3 : Value.int .u8 n = xs.toList[i] := by simpa using e2
    simp [Lit.wf, IntKind.min, IntKind.max, IntKind.signed, IntKind.bits] at wf
    exact ⟨n.toNat, by omega, by rw [← e3, Int.toNat_of_nonneg (by omega)]⟩
  refine ⟨xs.toList.map fun v => (intOf v).toNat, ?_, by simpa using hl', fun x hx => ?_⟩
  · unfold row
    rw [List.map_map]
    conv => lhs; rw [← List.map_id xs.toList]
    refine List.map_congr_left fun v hvm => ?_
    obtain ⟨n, hn, rfl⟩ := hv v hvm
    simp [intOf]
  · obtain ⟨v, hvm, rfl⟩ := List.mem_map.1 hx
    obtain ⟨n, hn, rfl⟩ := hv v hvm
    simpa [intOf] using hn

theorem nil_of_trod {H : Type} {enc : TypeId × Value → H} {W : World} {a0 : Option Addr} {len cap : Nat} {d0 : DataW H} {p : List MemPlace} {base : Nat} {held : Bool} {sp : Nat → Bool}
    (h0 : DataW.Trod enc Ybaf.prog W base sp held 22 (.slice a0 len cap) d0 p) : a0 = none → len = 0 ∧ cap = 0 := by
  obtain ⟨fuel, hf⟩ := h0
  rcases open_ints Ybaf.underlying22 Ybaf.underlying5 cells5 hf with ⟨hcs, hx⟩ | ⟨a, len', cap', zs, hcs, _, hl, hm, hz, hx, hcell, hwz⟩
  · simp [Value.cells] at hcs
    obtain ⟨rfl, rfl, rfl⟩ := hcs
    exact fun _ => ⟨rfl, rfl⟩
  · simp [Value.cells] at hcs
    obtain ⟨rfl, rfl, rfl⟩ := hcs
    exact fun h => by cases h

theorem laid_met6 (os : Os) (args : Array Value) : laidMet Ybaf.prog Rows.lawS4887CBuiltRow.laid ((laidWorldOf Ybaf.prog os).forCall (fun _ _ => 0) ⟨#[], args, []⟩).memory :=
  laidMet_of_run (ps := [.cell 0 0, .cell (lowOf Ybaf.prog) 0]) 8 (by kernel_rfl) (by kernel_rfl) (by kernel_rfl)

set_option maxRecDepth 100000 in
theorem built_lifted (os : Os) (started : os.Started) (H : Type) (enc : TypeId × Value → H) :
    ReturnsInTold none {} Ybaf.checked os 6 .any Input.okWide ((OpenSpec.ofChange Rows.lawS4887CBuiltSpec).preRow enc Ybaf.prog Ybaf.f6 [] false Rows.lawS4887CBuiltRow.laid) (fun F => ((OpenSpec.ofChange Rows.lawS4887CBuiltSpec).at F).post enc Ybaf.prog Ybaf.f6 false true false false) (aloneAtReturn Ybaf.prog) nothingAlways := by
  refine returnsInTold_of_row (C := Ybaf.checked) (s := OpenSpec.ofChange Rows.lawS4887CBuiltSpec) (by kernel_rfl) Ybaf.own started (by kernel_rfl) Ybaf.func6
    (OpenSpec.witness_stopped_at (enc := enc) (C := Ybaf.checked) false (laidWorldOf Ybaf.prog os) #[.int .u32 0, .string ByteArray.empty, .string ByteArray.empty, .string ByteArray.empty, .agg #[.int .u8 0, .int .u8 0, .int .u8 0, .int .u8 0, .int .u8 0, .int .u8 0, .int .u8 0, .int .u8 0, .int .u8 0, .int .u8 0], .slice none 0 0, .int .u64 0] rfl (by kernel_rfl) (by kernel_rfl) (by kernel_rfl)
      (OpenSpec.preRow_of_B rfl 8 (by kernel_rfl) (by kernel_rfl) (laid_met6 os _))) ?_
  intro F W base args ds gs before _ hF hval0 hW _ _ hsz hL _
  have hval : ∀ (j : Nat) t v, Ybaf.f6.params[j]? = some t → args[j]? = some v → Value.okWide Ybaf.prog W .any base t v := hval0
  have hW' := hW
  obtain ⟨p, q, hA0, hV0, rfl, hfz, hnd⟩ := hW
  have hA : DataW.TrodAll enc Ybaf.prog W 0 (fun _ => true) true Ybaf.f6.params.toList args.toList ds p := hA0
  have hV : DataW.TrodVars enc Ybaf.prog W (fun _ => true) [errName] gs q := hV0
  rw [Ybaf.params6] at hA hval
  obtain ⟨v0, vs0, d0, ds0, p0, q0, hargs, rfl, rfl, h0, r0⟩ := trodAll_cons hA
  obtain ⟨v1, vs1, d1, ds1, p1, q1, rfl, rfl, rfl, h1, r1⟩ := trodAll_cons r0
  obtain ⟨v2, vs2, d2, ds2, p2, q2, rfl, rfl, rfl, h2, r2⟩ := trodAll_cons r1
  obtain ⟨v3, vs3, d3, ds3, p3, q3, rfl, rfl, rfl, h3, r3⟩ := trodAll_cons r2
  obtain ⟨v4, vs4, d4, ds4, p4, q4, rfl, rfl, rfl, h4, r4⟩ := trodAll_cons r3
  obtain ⟨v5, vs5, d5, ds5, p5, q5, rfl, rfl, rfl, h5, r5⟩ := trodAll_cons r4
  obtain ⟨v6, vs6, d6, ds6, p6, q6, rfl, rfl, rfl, h6, r6⟩ := trodAll_cons r5
  obtain ⟨rfl, rfl, rfl⟩ := trodAll_nil r6
  obtain rfl : args = #[v0, v1, v2, v3, v4, v5, v6] := by cases args; simp_all
  obtain ⟨x0, rfl, rfl, rfl, wf0⟩ := open_int Ybaf.underlying37 (hval 0 37 v0 rfl rfl) h0
  obtain ⟨s0, rfl, rfl, rfl, hs0⟩ := open_string Ybaf.underlying9 (hval 1 9 v1 rfl rfl) h1
  obtain ⟨s1, rfl, rfl, rfl, hs1⟩ := open_string Ybaf.underlying9 (hval 2 9 v2 rfl rfl) h2
  obtain ⟨s2, rfl, rfl, rfl, hs2⟩ := open_string Ybaf.underlying9 (hval 3 9 v3 rfl rfl) h3
  obtain ⟨xs, rfl, hxs⟩ := WideMaps.okWide_arr arr46 (hval 4 46 v4 rfl rfl)
  obtain ⟨a0, len, cap, rfl⟩ := okWide_slice Ybaf.underlying22 (hval 5 22 v5 rfl rfl)
  obtain ⟨x6, rfl, rfl, rfl, wf6⟩ := open_int Ybaf.underlying47 (hval 6 47 v6 rfl rfl) h6
  have lt4 : ∀ x ∈ p4, x.block < W.heap.size := by obtain ⟨m, hm⟩ := h4; exact DataW.trod_lt m _ _ _ hm
  have lt5 : ∀ x ∈ p5, x.block < W.heap.size := by obtain ⟨m, hm⟩ := h5; exact DataW.trod_lt m _ _ _ hm
  obtain ⟨P, hB, _, _⟩ := bytes_of_trod (j := 5) rfl rfl hsz h5
  have hnil := nil_of_trod h5
  obtain ⟨TL, hT, hTl, hTb⟩ := array_of_trod h4
  obtain ⟨e1, es, hv1, hc1, _, _⟩ := laid_sentinel hL gS gSType Ybaf.underlying39 row94 Ybaf.underlying94 Ybaf.underlying96 rfl rfl Ybaf.underlying9 cells96 cells9
  obtain ⟨rfl, rfl⟩ := hV.unique (vars_read1 enc gS gSType Ybaf.underlying39 hv1 trivial _)
  clear hA0 hV0 hval0
  have hg1 : W.cell? ⟨0, 0, none⟩ = some (.iface 94 (.pointer (some e1))) := by simpa using World.var?_cell gS hv1 0
  have b0 : 0 ≤ x0 ∧ x0 < 4294967296 := by
    have := wf0
    simp [Lit.wf, IntKind.min, IntKind.max, IntKind.signed, IntKind.bits] at this
    omega
  have b6 : 0 ≤ x6 := by
    have := wf6
    simp [Lit.wf, IntKind.min, IntKind.max, IntKind.signed, IntKind.bits] at this
    omega
  obtain ⟨id, rfl⟩ := Int.eq_ofNat_of_zero_le b0.1
  obtain ⟨cut, rfl⟩ := Int.eq_ofNat_of_zero_le b6
  refine (built_walk F.told id s0 s1 s2 xs TL a0 len cap cut P e1 es W hF (by omega) hT hTl hTb hnil hB ⟨hg1, hc1⟩).mono fun e W' ⟨he, bel⟩ => ?_
  subst he
  refine ⟨_, rfl, _, _, _, [], [] ++ ([] ++ ([] ++ ([] ++ (p4 ++ (p5 ++ ([] ++ [])))))), [.cell 0 0], hW', ?_, ?_, ?_, bel.frame _, fun h => by cases h⟩
  · exact trodAll_mk1 (shut_bool Ybaf.underlying4 _)
  · exact trodAll_cons_mk (shut_int Ybaf.underlying37 wf0) (trodAll_cons_mk (shut_string Ybaf.underlying9 hs0) (trodAll_cons_mk (shut_string Ybaf.underlying9 hs1) (trodAll_cons_mk (shut_string Ybaf.underlying9 hs2)
      (trodAll_cons_mk (Below.trod Ybaf.laidOut' (by kernel_rfl) (of_decide_eq_true (by kernel_rfl)) h4 bel lt4)
      (trodAll_cons_mk (Below.trod Ybaf.laidOut' (by kernel_rfl) (of_decide_eq_true (by kernel_rfl)) h5 bel lt5)
      (trodAll_cons_mk (shut_int Ybaf.underlying47 wf6) trodAll_mk0))))))
  · exact vars_read1 enc gS gSType Ybaf.underlying39 (var?_below bel gS (World.block_lt_of_cell? _ _ hg1) hv1) trivial _

theorem built_proved : Rows.LawS4887CBuiltToldSaid :=
  Claim7.holds_of_told_tied_any_at .later 6 Ybaf.f6 "fmt.Sprintf" ["fmt.errorf"] [] _ _ _ _ _ (by kernel_rfl) rfl rfl rfl Ybaf.laidOut (by kernel_rfl) rfl ⟨rfl, rfl, rfl, rfl, rfl, rfl, rfl⟩ rfl rfl (by kernel_rfl) (by kernel_rfl) Ybaf.func6 (by kernel_rfl)
    (of_decide_eq_true (by kernel_rfl)) (of_decide_eq_true (by kernel_rfl)) Ybaf.stops.symm rfl Ybaf.stopKnobs.symm (by kernel_rfl)
    (by kernel_rfl) (by kernel_rfl) (by kernel_rfl) (by kernel_rfl) (by kernel_rfl) (by kernel_rfl) (by kernel_rfl) (by kernel_rfl) (by kernel_rfl) rfl (by kernel_rfl) rfl rfl
    rfl rfl
    rfl (by kernel_rfl) (by kernel_rfl) (by kernel_rfl) (by decide) (by kernel_rfl) lawS4887CBuilt_row_tie
    (OpenClaim.moreEntering_of (by kernel_rfl) (by kernel_rfl) (by kernel_rfl) (by kernel_rfl) (by kernel_rfl) (by kernel_rfl) (by kernel_rfl) (by kernel_rfl) (by kernel_rfl) (by kernel_rfl))
    ⟨_, WideRow.started_initial, Ybaf.quiet _⟩
    (fun os started _ H enc _ => built_lifted os started H enc)
end Go.Proofs.YbulkcwemFmt
