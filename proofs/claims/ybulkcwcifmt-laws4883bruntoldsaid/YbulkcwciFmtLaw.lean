import Derived.Test.YbulkcwciFmtTail1
namespace Go.Proofs.YbulkcwciFmt
open Go.RowKit Go.Deep Go.Extern.Stop Go.Stop Go.Extern

theorem wp_of_tail {P : Program} {Q : Exit → Act → World → Prop} {a : Act} {w : World} {n : Nat} {f : Func} {c : Code} (h : tailO n f = some c) (k : (tailC n f).wp P Q a w) : c.wp P Q a w := by
  unfold tailC at k
  rw [h] at k
  exact k
/-- How many edges the first i rows hold. -/
def tot (L : List (List Ed)) : Nat → Nat
  | 0 => 0
  | i + 1 => tot L i + (L.getD i []).length
theorem tot_le (L : List (List Ed)) (B : Nat) : ∀ n, (∀ i, i < n → (L.getD i []).length ≤ B) → tot L n ≤ n * B
  | 0, _ => Nat.zero_le _
  | n + 1, h => by
    have h1 := tot_le L B n (fun i hi => h i (by omega))
    have h2 := h n (by omega)
    unfold tot
    rw [Nat.add_mul, Nat.one_mul]
    omega
theorem le_tot (L : List (List Ed)) : ∀ n i, i < n → (L.getD i []).length ≤ tot L n
  | 0, i, h => absurd h (by omega)
  | n + 1, i, h => by
    unfold tot
    by_cases e : i = n
    · subst e; omega
    · have := le_tot L n i (by omega)
      omega
def FitsTo (L : List (List Ed)) (i : Nat) : Prop := ∀ k, k < i → ∀ j, j < (L.getD k []).length → ((L.getD k []).getD j Ed.d).oth.length ≤ 256
def RelE1 (L : List (List Ed)) (w0 : World) (v9 v57 : Value) (wr : World) : Prop :=
  ∃ i, i ≤ L.length ∧ v57 = .int .i64 i ∧ v9 = .int .i64 (tot L i) ∧ Below w0.heap.size w0 wr ∧ FitsTo L i
def RelE2 (r : List Ed) (w0 : World) (v67 : Value) (wr : World) : Prop :=
  ∃ j, j ≤ r.length ∧ v67 = .int .i64 j ∧ Below w0.heap.size w0 wr ∧ ∀ k, k < j → (r.getD k Ed.d).oth.length ≤ 256

set_option maxHeartbeats 8000000 in
set_option maxRecDepth 100000 in
theorem law_walk (F : Interp) (w0 : World) (hF : F.answers w0.tape) (L : List (List Ed)) (LA : Option Addr) (lc : Nat) (hL : LocsAt w0 (.slice LA L.length lc) L) (hrl : ∀ i, i < L.length → (L.getD i []).length ≤ 140737488355328)
    (l : Nat) (hl : l < 65536) (GA : Option Addr) (gl gc : Nat) (G : Nat → Bool) (hga : Elems w0 GA gl (fun j => .bool (G j))) (f : Nat) (hf : f < 256) :
    Calls Ybaf.prog 3 #[.slice LA L.length lc, .int .u16 l, .slice GA gl gc, .int .u8 f] w0 fun e w' => LawEnd w0 e w' := by
  have HF : Hid (F.answers w0.tape) := hF
  have HL : Hid (LocsAt w0 (.slice LA L.length lc) L) := hL
  have HRL : Hid (∀ i, i < L.length → (L.getD i []).length ≤ 140737488355328) := hrl
  have HGA : Hid (Elems w0 GA gl (fun j => .bool (G j))) := hga
  clear hF hL hrl hga
  go_enter Ybaf.func3, Ybaf.ntmps3
  refine wp_of_tail (n := 0) (f := Ybaf.f3) rfl ?_
  refine wp_tail_k (n := 0) (f := Ybaf.f3) rfl fun K hK => ?_
  go_wp2
  refine wp_tail_k (n := 1) (f := Ybaf.f3) rfl fun K hK => ?_
  by_cases hn : L.length ≤ 1024
  · have hnb : decide ((1024 : Int) < (L.length : Int)) = false := decide_eq_false (by omega)
    by_cases hgl : gl ≤ 1024
    · have hgb : decide ((1024 : Int) < (gl : Int)) = false := decide_eq_false (by omega)
      go_wp2
      refine wp_tail_k (n := 2) (f := Ybaf.f3) rfl fun K hK => ?_
      go_wp2
      refine wp_tail_k (n := 3) (f := Ybaf.f3) rfl fun K hK => ?_
      go_wp2
      go_loopw [9, 57] (fun v9 v57 wr => RelE1 L w0 v9 v57 wr) (fun _ v57 _ => L.length - (intOf v57).toNat)
      case atStart => exact ⟨0, Nat.zero_le _, rfl, rfl, Below.refl _ _, fun k hk => absurd hk (by omega)⟩
      case round =>
        obtain ⟨i, hin, rfl, rfl, hbel, hfit⟩ := hrel
        obtain ⟨wA, rfl⟩ : ∃ x, x = wr := ⟨_, rfl⟩
        have HW : Hid (Below w0.heap.size w0 wA) := hbel
        have HFT : Hid (FitsTo L i) := hfit
        have htl : tot L i ≤ 144115188075855872 := by
          have := tot_le L 140737488355328 i (fun k hk => HRL.out k (by omega))
          omega
        clear hbel hfit
        by_cases hlt : i < L.length
        · obtain ⟨a2, ca2, hv2, hrow⟩ := HL.out.below HW.out
          simp only [Value.slice.injEq, true_and] at hv2
          obtain ⟨rfl, rfl⟩ := hv2
          obtain ⟨b, o, rfl, hb, hall⟩ := hrow (by omega)
          obtain ⟨rv, hc, ra, rc, rfl, hrr⟩ := hall i hlt
          have hr1 := HRL.out i hlt
          have HTS : Hid (tot L (i + 1) = tot L i + (L.getD i []).length) := rfl
          obtain ⟨r, hre⟩ : ∃ r, L.getD i [] = r := ⟨_, rfl⟩
          rw [hre] at hc hrr hr1 HTS
          have HRE : Hid (L.getD i [] = r) := hre
          have HRR : Hid (0 < r.length → ∃ b o, ra = some ⟨b, o, none⟩ ∧ b < wA.heap.size ∧ ∀ j, j < r.length → EdAt wA b (o + j * 4) (r.getD j Ed.d)) := hrr
          clear hall hrow hre hrr
          go_wp2
          go_loopw [67] (fun v67 x => RelE2 r wA v67 x) (fun v67 _ => r.length - (intOf v67).toNat)
          case atStart => exact ⟨0, Nat.zero_le _, rfl, Below.refl _ _, fun k hk => absurd hk (by omega)⟩
          case round =>
            obtain ⟨j, hjn, rfl, hbel4, hfj⟩ := hrel
            obtain ⟨wB, rfl⟩ : ∃ x, x = wr := ⟨_, rfl⟩
            have HW4 : Hid (Below wA.heap.size wA wB) := hbel4
            have HFJ : Hid (∀ k, k < j → (r.getD k Ed.d).oth.length ≤ 256) := hfj
            have hsz4 := hbel4.size
            clear hbel4 hfj
            by_cases hlt4 : j < r.length
            · obtain ⟨b5, o5, rfl, hb5, hed5⟩ := HRR.out (by omega)
              obtain ⟨hop, e0, ⟨ov, e1, oa, oc, rfl, hob, hoe⟩, e2, e3⟩ := (hed5 j hlt4).below hb5 HW4.out
              obtain ⟨d, hd⟩ : ∃ d, r.getD j Ed.d = d := ⟨_, rfl⟩
              rw [hd] at hop e0 e1 e2 e3
              have HD : Hid (r.getD j Ed.d = d) := hd
              clear hed5 hd hob hoe
              by_cases h256 : d.oth.length ≤ 256
              · have t1 : decide ((256 : Int) < (d.oth.length : Int)) = false := decide_eq_false (by omega)
                go_wp2
                go_roundw
                case rel => exact ⟨j + 1, hlt4, by go_num, HW4.out.alloc hsz4 _, fun k hk => by
                  by_cases e : k = j
                  · rw [e, HD.out]; exact h256
                  · exact HFJ.out k (by omega)⟩
                case measure => simp [intOf]; omega
              · have t1 : decide ((256 : Int) < (d.oth.length : Int)) = true := decide_eq_true (by omega)
                go_wp2
                go_ret
                exact ⟨rfl, (HW.out.trans (HW4.out.mono HW.out.size)).alloc (Nat.le_trans HW.out.size hsz4) _⟩
            · obtain rfl : j = r.length := by omega
              go_wp2
              go_roundw
              case rel => exact ⟨i + 1, hlt, by go_num, by rw [HTS.out]; go_num, HW.out.trans (HW4.out.mono HW.out.size), fun k hk j hj => by
                by_cases e : k = i
                · subst e
                  rw [HRE.out] at hj ⊢
                  exact HFJ.out j hj
                · exact HFT.out k (by omega) j hj⟩
              case measure => simp [intOf]; omega
        · obtain rfl : i = L.length := by omega
          go_wp2
          refine wp_tail_k (n := 4) (f := Ybaf.f3) rfl fun K hK => ?_
          by_cases ht : tot L L.length ≤ 1024
          · have t1 : decide ((1024 : Int) < (tot L L.length : Int)) = false := decide_eq_false (by omega)
            go_wp2
            exact tail1 F w0 HF.out L LA lc HL.out hn (fun k hk => ⟨Nat.le_trans (le_tot L _ k hk) ht, HFT.out k hk⟩) wA HW.out l hl GA gl gc G hgl HGA.out f hf _ _ _ _ _ _ _ _ _ _ _ _ _ _ _ _ _ _ _ _ _ _ _ _ _ _ _ _ _ _ _ _ _ _ _ _ _ _ _ _ _ _ _ _ _ _ _ _ _ _ _ _ _ _ _ _ _ _ _ _ _ _ _ _ _ _ _ _ _ _ _ _ _ _ _ _ _ _ _ _ _ _ _ _ _ _ _ _ _ _ _ _ _ _ _ _ _ _ _ _ _ _ _ _ _ _ _ _ _ _ _ _ _ _ _ _ _ _ _ _ _ _ _ _ _ _ _ _ _ _ _ _ _ _ _ _ _ _ _ _ _ _ _ _ _ _ _ _ _ _ _ _ _ _ _ _ _ _ _ _ _ _ _ _ _ _ _ _ _ _ _ _ _ _ _ _ _ _ _ _ _ _ _ _ _ _ _ _ _ _ _ _ _ _ _ _ _ _ _ _ _ _ _ _ _ _ _ _ _ _ _ _ _ _ _ _ _ _ _ _ _ _ _ _ _ _ _ _ _ _ _ _ _ _ _ _ _ _ _ _ _ _ _ _ _ _ _ _ _ _ _ _ _ _ _ _ _ _ _ _ _ _ _ _ _ _ _ _ _ _ _ _ _ _ _ _ _ _ _ _ _ _ _ _ _ _ _ _ _ _ _ _ _ _ _ _ _ _ _ _ _ _ _ _ _ _ _ _ _ _ _ _ _ _ _ _ _ _ _ _ _ _ _
          · have t1 : decide ((1024 : Int) < (tot L L.length : Int)) = true := decide_eq_true (by omega)
            go_wp2
            go_ret
            exact ⟨rfl, HW.out⟩
    · have hgb : decide ((1024 : Int) < (gl : Int)) = true := decide_eq_true (by omega)
      go_wp2
      go_ret
      exact ⟨rfl, Below.refl _ _⟩
  · have hnb : decide ((1024 : Int) < (L.length : Int)) = true := decide_eq_true (by omega)
    go_wp2
    go_ret
    exact ⟨rfl, Below.refl _ _⟩

end Go.Proofs.YbulkcwciFmt
