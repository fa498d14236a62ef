import Derived.Test.YbulkcwbuPopLast
import Derived.Test.YbulkcwbuPlain
import Derived.Deep.RegionHeld3
namespace Go.Proofs.Ybulkcwbu
open Go.RowKit Go.Deep

set_option maxHeartbeats 400000 in
theorem cmpStr_any (a b : ByteArray) (w : World) :
    Calls Yba.prog 11 #[.string a, .string b] w fun e w' => e = .returned (.int .i64 (kc a b)) ∧ w' = w := by
  go_enter Yba.func11, Yba.ntmps11
  go_wp2
  rw [run_callFunc_extern Yba.func12 (by kernel_rfl) (by kernel_rfl) (by kernel_rfl) (e := Extern.BytealgCompare.compare) (by kernel_rfl), Lib.run_compareString]
  simp only [Result.andThen]
  rw [Oper.upon_value]
  go_wp2
  go_ret
  exact ⟨rfl, rfl⟩

set_option maxHeartbeats 400000 in
theorem compare_any (a b : ByteArray) (w : World) :
    Calls Yba.prog 9 #[.string a, .string b] w fun e w' => e = .returned (.int .i64 (kc a b)) ∧ w' = w := by
  go_enter Yba.func9, Yba.ntmps9
  go_wp2_with (go_at_call 11; refine (cmpStr_any _ _ _).mono ?_; rintro e w' ⟨rfl, rfl⟩)
  go_ret
  exact ⟨rfl, rfl⟩

set_option maxHeartbeats 400000 in
theorem cmpInt_any (x y : Int) (w : World) :
    Calls Yba.prog 33 #[.int .i64 x, .int .i64 y] w fun e w' => e = .returned (.int .i64 (ic x y)) ∧ w' = w := by
  by_cases h1 : x < y
  · go_enter Yba.func33, Yba.ntmps33
    go_wp2
    go_ret
    exact ⟨by unfold ic; rw [if_pos (by omega)]; rfl, rfl⟩
  · by_cases h2 : y < x
    · go_enter Yba.func33, Yba.ntmps33
      go_wp2
      go_ret
      exact ⟨by unfold ic; rw [if_neg (by omega), if_pos (by omega)]; rfl, rfl⟩
    · go_enter Yba.func33, Yba.ntmps33
      go_wp2
      go_ret
      exact ⟨by unfold ic; rw [if_neg (by omega), if_neg (by omega)]; rfl, rfl⟩

set_option maxHeartbeats 400000 in
theorem or_any (b : Nat) (x y : Int) (w : World) (c0 : w.cell? ⟨b, 0, none⟩ = some (.int .i64 x)) (c1 : w.cell? ⟨b, 1, none⟩ = some (.int .i64 y)) :
    Calls Yba.prog 32 #[.slice (some ⟨b, 0, none⟩) 2 2] w fun e w' => e = .returned (.int .i64 (oc x y)) ∧ w' = w := by
  by_cases h1 : x = 0
  · subst h1
    by_cases h2 : y = 0
    · subst h2
      go_enter Yba.func32, Yba.ntmps32
      go_wp2
      refine wp_loop_rounds 3 ?_
      rw [rounds_succ]
      go_wp2
      rw [rounds_succ]
      go_wp2
      rw [rounds_succ]
      go_wp2
      go_ret
      exact ⟨rfl, rfl⟩
    · have h2 : (y != 0) = true := by simpa using h2
      go_enter Yba.func32, Yba.ntmps32
      go_wp2
      refine wp_loop_rounds 2 ?_
      rw [rounds_succ]
      go_wp2
      rw [rounds_succ]
      go_wp2
      go_ret
      exact ⟨by simp [oc], rfl⟩
  · have h2 : (x != 0) = true := by simpa using h1
    go_enter Yba.func32, Yba.ntmps32
    go_wp2
    refine wp_loop_rounds 1 ?_
    rw [rounds_succ]
    go_wp2
    go_ret
    exact ⟨by simp [oc, h1], rfl⟩

set_option maxHeartbeats 1000000 in
theorem less_cells (B m n i j p q : Nat) (ki kj : ByteArray) (ai aj : Int) (w : World) (hi : i < m) (hj : j < m)
    (c1 : w.cell? ⟨B, i, none⟩ = some (.pointer (some ⟨p, 0, none⟩))) (c2 : w.cell? ⟨B, j, none⟩ = some (.pointer (some ⟨q, 0, none⟩)))
    (c3 : w.cell? ⟨p, 6, none⟩ = some (.string ki)) (c4 : w.cell? ⟨q, 6, none⟩ = some (.string kj)) (c5 : w.cell? ⟨p, 20, none⟩ = some (.int .i64 ai)) (c6 : w.cell? ⟨q, 20, none⟩ = some (.int .i64 aj)) :
    Calls Yba.prog 30 #[.slice (some ⟨B, 0, none⟩) m n, .int .i64 i, .int .i64 j] w fun e w' => e = .returned (.bool (decide (oc (kc ki kj) (ic ai aj) < 0))) ∧ Below w.heap.size w w' := by
  have hi' : (i : Int) < (m : Int) := by omega
  have hj' : (j : Int) < (m : Int) := by omega
  have hi0 : (0 : Int) ≤ (i : Int) := by omega
  have hj0 : (0 : Int) ≤ (j : Int) := by omega
  go_enter Yba.func30, Yba.ntmps30
  go_wp2
  go_region_held3 (fun w' => w'.cell? ⟨B, i, none⟩ = some (.pointer (some ⟨p, 0, none⟩)) ∧ w'.cell? ⟨B, j, none⟩ = some (.pointer (some ⟨q, 0, none⟩)) ∧ w'.cell? ⟨p, 6, none⟩ = some (.string ki) ∧ w'.cell? ⟨q, 6, none⟩ = some (.string kj) ∧ w'.cell? ⟨p, 20, none⟩ = some (.int .i64 ai) ∧ w'.cell? ⟨q, 20, none⟩ = some (.int .i64 aj)) (go_keep)
    (first | (go_at_call 9; refine (compare_any _ _ _).mono ?_; rintro e w' ⟨rfl, rfl⟩) | (go_at_call 33; refine (cmpInt_any _ _ _).mono ?_; rintro e w' ⟨rfl, rfl⟩) | (go_at_call 32; refine (or_any _ (kc ki kj) (ic ai aj) _ ?_ ?_).mono ?_; (simp [go_sem]); (simp [go_sem]); rintro e w' ⟨rfl, rfl⟩))
  go_wp2
  go_ret
  exact ⟨rfl, by go_grown⟩
end Go.Proofs.Ybulkcwbu
