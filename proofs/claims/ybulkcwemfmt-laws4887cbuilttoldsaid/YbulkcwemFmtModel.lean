import Derived.Test.YbulkcwemFmtParse
namespace Go.Proofs.YbulkcwemFmt
open Go.RowKit Go.Deep Go.Extern.Stop Go.Stop Go.Extern

/-- What the law's own model answers. -/
def ModelEnd (P : Nat → Nat) (n : Nat) (w : World) (e : Ending) (w' : World) : Prop :=
  Below w.heap.size w w' ∧ ((whole P n = true ∧ e = .returned (.tuple #[.int .u32 (le32 P), .bool true])) ∨ (whole P n = false ∧ e = .returned (.tuple #[.int .u32 0, .bool false])))

theorem whole_none {P : Nat → Nat} {n i : Nat} (hi : i ≤ 3) (h : skip P n i = none) : whole P n = false := by
  have step : ∀ j, skip P n j = none → skip P n (j + 1) = none := fun j hj => by simp [skip, hj]
  have h3 : skip P n 3 = none := by
    match i, hi, h with
    | 0, _, h => exact step 2 (step 1 (step 0 h))
    | 1, _, h => exact step 2 (step 1 h)
    | 2, _, h => exact step 2 h
    | 3, _, h => exact h
  simp [whole, h3]

set_option maxHeartbeats 400000 in
set_option maxRecDepth 100000 in
theorem model_short (A : Option Addr) (n C : Nat) (P : Nat → Nat) (w : World) (h4 : n < 4) :
    Calls Ybaf.prog 10 #[.slice A n C] w fun e w' => ModelEnd P n w e w' := by
  have G : Hid (ModelEnd P n w (.returned (.tuple #[.int .u32 0, .bool false])) w) := ⟨Below.refl _ _, .inr ⟨whole_none (i := 0) (by omega) (by simp [skip]; omega), rfl⟩⟩
  go_enter Ybaf.func10, Ybaf.ntmps10
  go_wp2
  go_ret2
  exact G.out

set_option maxHeartbeats 1000000 in
set_option maxRecDepth 100000 in
theorem model_long (b o n C : Nat) (P : Nat → Nat) (w : World) (h4 : 4 ≤ n) (hn : n ≤ 9223372036854775000) (hP : ∀ j, j < n → P j < 256) (hc : ∀ j, j < n → w.cell? ⟨b, o + j, none⟩ = some (.int .u8 (P j))) :
    Calls Ybaf.prog 10 #[.slice (some ⟨b, o, none⟩) n C] w fun e w' => ModelEnd P n w e w' := by
  have HP : Hid (∀ j, j < n → P j < 256) := hP
  have HC : Hid (∀ j, j < n → w.cell? ⟨b, o + j, none⟩ = some (.int .u8 (P j))) := hc
  clear hP hc
  go_enter Ybaf.func10, Ybaf.ntmps10
  go_wp2
  go_loop [5, 6] (fun v5 v6 => ∃ i pos : Nat, i ≤ 3 ∧ skip P n i = some pos ∧ pos ≤ n ∧ v6 = .int .i64 i ∧ v5 = .int .i64 pos) (fun _ v6 => 3 - (intOf v6).toNat)
  case atStart => exact ⟨0, 4, by omega, by simp [skip]; omega, h4, rfl, rfl⟩
  case round =>
    obtain ⟨i, pos, hi, hs, hpn, rfl, rfl⟩ := hrel
    have S : Hid (skip P n i = some pos) := hs
    clear hs
    by_cases hlt : i < 3
    · by_cases hp : pos < n
      · have c := HC.out pos hp
        have p := HP.out pos hp
        by_cases hl : pos + 1 + P pos ≤ n
        · have S2 : Hid (skip P n (i + 1) = some (pos + 1 + P pos)) := by
            show skip P n (i + 1) = _
            simp [skip, S.out, hp, hl]
          go_wp2
          go_round
          case rel => exact ⟨i + 1, pos + 1 + P pos, by omega, S2.out, hl, by go_num, by go_num⟩
          case measure => simp [intOf]; omega
        · have G : Hid (ModelEnd P n w (.returned (.tuple #[.int .u32 0, .bool false])) w) := ⟨Below.refl _ _, .inr ⟨whole_none (i := i + 1) (by omega) (by simp [skip, S.out]; intro _; omega), rfl⟩⟩
          go_wp2
          go_ret2
          exact G.out
      · have G : Hid (ModelEnd P n w (.returned (.tuple #[.int .u32 0, .bool false])) w) := ⟨Below.refl _ _, .inr ⟨whole_none (i := i + 1) (by omega) (by simp [skip, S.out]; intro _; omega), rfl⟩⟩
        go_wp2
        go_ret2
        exact G.out
    · obtain rfl : i = 3 := by omega
      by_cases hw : pos + 10 ≤ n
      · have W : Hid (whole P n = true) := by show whole P n = true; simp [whole, S.out, hw]
        have c0 : w.cell? ⟨b, o, none⟩ = some (.int .u8 (P 0)) := by simpa using HC.out 0 (by omega)
        have c1 := HC.out 1 (by omega)
        have c2 := HC.out 2 (by omega)
        have c3 := HC.out 3 (by omega)
        have p0 := HP.out 0 (by omega)
        have p1 := HP.out 1 (by omega)
        have p2 := HP.out 2 (by omega)
        have p3 := HP.out 3 (by omega)
        have n0 : (0 : Int) < (n : Int) := by omega
        have n1 : (1 : Int) < (n : Int) := by omega
        have n2 : (2 : Int) < (n : Int) := by omega
        have n3 : (3 : Int) < (n : Int) := by omega
        go_wp2_with fail
        go_quiet (fail)
        go_wp2
        go_ret2
        exact ⟨below_drewN (Below.refl _ _) _, .inl ⟨W.out, rfl⟩⟩
      · have G : Hid (ModelEnd P n w (.returned (.tuple #[.int .u32 0, .bool false])) w) := ⟨Below.refl _ _, .inr ⟨by simp [whole, S.out]; omega, rfl⟩⟩
        go_wp2
        go_ret2
        exact G.out

theorem model_any (A : Option Addr) (n C : Nat) (P : Nat → Nat) (w : World) (hn : n ≤ 9223372036854775000) (hB : Bytes w A n P) :
    Calls Ybaf.prog 10 #[.slice A n C] w fun e w' => ModelEnd P n w e w' := by
  by_cases h4 : n < 4
  · exact model_short A n C P w h4
  · obtain ⟨hP, hb⟩ := hB
    obtain ⟨b, o, rfl, _, hc⟩ := hb (by omega)
    exact model_long b o n C P w (by omega) hn hP hc
end Go.Proofs.YbulkcwemFmt
