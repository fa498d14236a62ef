import Derived.Test.YbulkcwemFmtModel
namespace Go.Proofs.YbulkcwemFmt
open Go.RowKit Go.Deep Go.Extern.Stop Go.Stop Go.Extern

theorem Bytes.below {w w' : World} {A : Option Addr} {n : Nat} {P : Nat → Nat} (h : Bytes w A n P) (k : Below w.heap.size w w') : Bytes w' A n P := by
  refine ⟨h.1, fun h0 => ?_⟩
  obtain ⟨b, o, e, hb, hc⟩ := h.2 h0
  exact ⟨b, o, e, Nat.lt_of_lt_of_le hb k.size, fun j hj => (k.cell (p := ⟨b, o + j, none⟩) hb).trans (hc j hj)⟩
theorem Sent.below {w w' : World} {ea : Addr} {es : ByteArray} (h : Sent w ea es) (k : Below w.heap.size w w') : Sent w' ea es :=
  ⟨(k.cell (lt_of_cell h.1)).trans h.1, (k.cell (lt_of_cell h.2)).trans h.2⟩

set_option maxHeartbeats 1000000 in
set_option maxRecDepth 100000 in
theorem lawModel_walk (F : Interp) (A : Option Addr) (n C : Nat) (P : Nat → Nat) (ea : Addr) (es : ByteArray) (w : World) (hF : F.answers w.tape) (hn : n ≤ C) (hC : C ≤ 9223372036854775000) (hB : Bytes w A n P) (hS : Sent w ea es) :
    Calls Ybaf.prog 5 #[.slice A n C] w fun e w' => e = .returned (.bool true) ∧ Below w.heap.size w w' := by
  have HF : Hid (F.answers w.tape) := hF
  have HB : Hid (Bytes w A n P) := hB
  have HS : Hid (Sent w ea es) := hS
  clear hF hB hS
  go_enter Ybaf.func5, Ybaf.ntmps5
  go_wp2_with fail
  refine (parse_any F A n C P ea es w HF.out hn (by omega) HB.out HS.out).mono ?_
  rintro e w1 ⟨hb1, h1⟩
  have HB1 : Hid (Below w.heap.size w w1) := hb1
  clear hb1
  rcases h1 with ⟨hw, rfl⟩ | ⟨hw, g, rfl, hg⟩
  · go_wp2_with fail
    refine (model_any A n C P w1 (by omega) (HB.out.below HB1.out)).mono ?_
    rintro e w2 ⟨hb2, h2⟩
    have HB2 : Hid (Below w.heap.size w w2) := HB1.out.trans (hb2.mono HB1.out.size)
    clear hb2
    rcases h2 with ⟨_, rfl⟩ | ⟨hw2, _⟩
    · clear hw
      go_wp2
      go_ret
      exact ⟨rfl, HB2.out⟩
    · rw [hw] at hw2; cases hw2
  · go_wp2_with fail
    refine (model_any A n C P w1 (by omega) (HB.out.below HB1.out)).mono ?_
    rintro e w2 ⟨hb2, h2⟩
    have HB2 : Hid (Below w.heap.size w w2) := HB1.out.trans (hb2.mono HB1.out.size)
    have HG : Hid (w2.cell? ⟨g, 1, none⟩ = some (.iface 94 (.pointer (some ea)))) := (hb2.cell (lt_of_cell hg)).trans hg
    clear hb2
    rcases h2 with ⟨hw2, _⟩ | ⟨_, rfl⟩
    · rw [hw] at hw2; cases hw2
    · have k0 := (HS.out.below HB2.out).1
      clear hw hg
      go_wp2_with fail
      refine (is_wrap_same g ea w2 HG.out).mono ?_
      rintro e w3 ⟨rfl, hw3⟩
      subst hw3
      go_wp2
      go_ret
      exact ⟨rfl, HB2.out⟩
end Go.Proofs.YbulkcwemFmt
