import Derived.Test.YbulkcwbuDrain
namespace Go.Proofs.Ybulkcwbu
open Go.RowKit Go.Deep

set_option maxHeartbeats 2000000 in
set_option maxRecDepth 100000 in
theorem drain_walk (ka aa : Option Addr) (n kc' m ac : Nat) (K : Nat → ByteArray) (A : Nat → Int) (w : World) (hn : n ≤ 1024) (hm : m ≤ 9223372036854775807)
    (hk : Elems w ka n (fun j => .string (K j))) (ha : Elems w aa m (fun j => .int .i64 (A j))) :
    Calls Yba.prog 4 #[.slice ka n kc', .slice aa m ac] w fun e w' => e = .returned (.bool true) ∧ Below w.heap.size w w' := by
  have hmk := run_make_row' (P := Yba.prog) 24 27 (.pointer none) 8 Yba.underlying24 Yba.info27 rfl .i64 .i64 n (by omega) (by omega)
  have hmk2 := run_make_row' (P := Yba.prog) 50 4 (.bool false) 1 Yba.underlying50 Yba.info4 rfl .i64 .i64 n (by omega) (by omega)
  have has := assert27
  have hnq := neq27
  have HK : Hid (Elems w ka n (fun j => .string (K j))) := hk
  have HA : Hid (Elems w aa m (fun j => .int .i64 (A j))) := ha
  clear hk ha
  go_enter Yba.func4, Yba.ntmps4
  go_wp2_with fail
  refine (build_any ka aa n kc' m ac K A w hn hm HK.out HA.out).mono ?_
  rintro e w1 ⟨rfl, hrel⟩
  have HR : Hid (BRel w n K (ageOf m A) n w1) := hrel
  clear hrel
  go_wp2_with fail
  clear hmk
  go_loopw [8] (fun i wr => ∃ k : Nat, k ≤ n ∧ i = .int .i64 k ∧ CRel w1 w.heap.size n k wr) (fun i _ => n - (intOf i).toNat)
  case atStart => exact ⟨0, Nat.zero_le _, rfl, CRel.start _ _ _⟩
  case round =>
    obtain ⟨k, hkn, rfl, hrel⟩ := hrel
    by_cases hlt : k < n
    · have c1 := hrel.hcell.1
      have c2 : wr.cell? ⟨w.heap.size, k, none⟩ = some (.pointer (some ⟨w.heap.size + 1 + k, 0, none⟩)) := (hrel.1.cell (by have := HR.out.1; show w.heap.size < _; omega)).trans (HR.out.pcell hlt)
      have c3 := (hrel.room hlt).1
      have c4 := (hrel.room hlt).2
      have HT := (show Hid (CRel w1 w.heap.size n (k + 1) _) from hrel.step)
      clear hrel hmk2
      go_wp2
      go_roundw
      case rel => exact ⟨k + 1, hlt, by go_num, HT.out⟩
      case measure => simp [intOf]; omega
    · obtain rfl : k = n := by omega
      have HC : Hid (CRel w1 w.heap.size k k wr) := hrel
      clear hrel
      go_wp2_with fail
      refine (init_any wr w.heap.size w1.heap.size k id K (ageOf m A) (hw_start HR.out HC.out) hn).mono ?_
      rintro e w2 hI
      have HD : Hid (Dr w K (ageOf m A) w.heap.size w1.heap.size w2.heap.size k k (.pointer none) (w2.alloc (.cells (madeCells #[.bool false] k) 4))) := Dr.start HR.out HC.out hI
      obtain ⟨rfl, -⟩ := hI
      go_wp2_with fail
      clear hmk2
      go_loopw [10, 11] (fun v c wr => ∃ j : Nat, j ≤ k ∧ c = .int .i64 j ∧ Dr w K (ageOf m A) w.heap.size w1.heap.size w2.heap.size k (k - j) v wr) (fun _ c _ => k - (intOf c).toNat)
      case atStart => exact ⟨0, Nat.zero_le _, rfl, HD.out⟩
      case round =>
        obtain ⟨j, hj, rfl, hdr⟩ := hrel
        by_cases hlt2 : j < k
        · obtain ⟨l, h1, h2, h8, h11⟩ := hdr.round (by omega)
          have c1 := h1.hcell
          have R : Hid (HW wr w.heap.size w1.heap.size k (k - j) l K (ageOf m A) ∧ Hp K (ageOf m A) 0 (k - j) l) := ⟨h1, h2⟩
          have RD : Hid _ := h11
          have hq : (((k - j : Nat) : Int) != (k : Int) - (j : Int)) = false := by rw [bne_eq_false_iff_eq]; omega
          have HP : Hid (Prev K (ageOf m A) w.heap.size k (k - j) l u10) := h8
          clear h1 h2 h11 h8 hdr
          go_wp2_with fail
          refine (hpop_any wr w.heap.size w1.heap.size k (k - j) l K (ageOf m A) R.out.1 hn (by omega) R.out.2).mono ?_
          rintro e w3 hP
          obtain ⟨⟨d1, d2, d3, d4, d5, d6⟩, d7⟩ := RD.out e w3 hP
          have D7 : Hid _ := d7
          have he := hP.1
          subst he
          clear hP d7 RD c1
          have d10 := d1 (l 0) d2
          obtain ⟨d11, d12, d13⟩ := d10
          have D1 : Hid _ := d1
          clear d1
          have e1 : ((l 0 : Nat) : Int) < (k : Int) := by omega
          have e2 : ¬ ((l 0 : Nat) : Int) < 0 := by omega
          have e3 : ¬ (k : Int) ≤ ((l 0 : Nat) : Int) := by omega
          rcases HP.out with ⟨p1, rfl⟩ | ⟨p1, rfl, p3⟩
          · clear HP p1
            go_wp2
            go_roundw
            case rel => exact ⟨j + 1, by omega, by go_num, D7.out _ rfl rfl rfl rfl⟩
            case measure => simp [intOf]; omega
          · obtain ⟨g1, g2⟩ := leR_end (p3 0 (by omega))
            obtain ⟨q, hqn, hq2⟩ : ∃ q, q < k ∧ l (k - j) = q := ⟨_, R.out.1.2.2.2.2.2 (k - j) p1, rfl⟩
            rw [hq2] at g1 g2 ⊢
            obtain ⟨_, d22, d23⟩ := D1.out q hqn
            clear HP p3 hq2
            have s1 : ∀ v : Value, (w3.setCell ⟨w2.heap.size, l 0, none⟩ v).cell? ⟨w.heap.size + 1 + l 0, 6, none⟩ = some (.string (K (l 0))) := fun v => by
              rw [← d12]; exact World.cell?_of_block (w := w3) (Below.heap_setCell _ _ _ _ (by show w.heap.size + 1 + l 0 ≠ w2.heap.size; omega))
            have s2 : ∀ v : Value, (w3.setCell ⟨w2.heap.size, l 0, none⟩ v).cell? ⟨w.heap.size + 1 + q, 6, none⟩ = some (.string (K q)) := fun v => by
              rw [← d22]; exact World.cell?_of_block (w := w3) (Below.heap_setCell _ _ _ _ (by show w.heap.size + 1 + q ≠ w2.heap.size; omega))
            have s3 : ∀ v : Value, (w3.setCell ⟨w2.heap.size, l 0, none⟩ v).cell? ⟨w.heap.size + 1 + l 0, 20, none⟩ = some (.int .i64 (ageOf m A (l 0))) := fun v => by
              rw [← d13]; exact World.cell?_of_block (w := w3) (Below.heap_setCell _ _ _ _ (by show w.heap.size + 1 + l 0 ≠ w2.heap.size; omega))
            have s4 : ∀ v : Value, (w3.setCell ⟨w2.heap.size, l 0, none⟩ v).cell? ⟨w.heap.size + 1 + q, 20, none⟩ = some (.int .i64 (ageOf m A q)) := fun v => by
              rw [← d23]; exact World.cell?_of_block (w := w3) (Below.heap_setCell _ _ _ _ (by show w.heap.size + 1 + q ≠ w2.heap.size; omega))
            clear d12 d13 d22 d23
            have G2 : Hid (kc (K q) (K (l 0)) = 0 → ageOf m A q ≤ ageOf m A (l 0)) := g2
            clear g2
            have hg0 : decide (0 < kc (K q) (K (l 0))) = false := by simpa using g1
            go_wp2_with fail
            go_quiet ((go_at_call 9; exact Calls.quiet_of_same (compare_any _ _ _)))
            go_wp2_with fail
            by_cases hz : kc (K q) (K (l 0)) = 0
            · have hz1 : (kc (K q) (K (l 0)) == 0) = true := by simpa using hz
              have hz2 : ¬ ageOf m A (l 0) < ageOf m A q := by have := G2.out hz; omega
              clear hz
              go_quiet (fail)
              go_wp2
              go_roundw
              case rel => exact ⟨j + 1, by omega, by go_num, D7.out _ rfl rfl rfl rfl⟩
              case measure => simp [intOf]; omega
            · have hz1 : (kc (K q) (K (l 0)) == 0) = false := by simpa using hz
              clear hz
              go_quiet (fail)
              go_wp2
              go_roundw
              case rel => exact ⟨j + 1, by omega, by go_num, D7.out _ rfl rfl rfl rfl⟩
              case measure => simp [intOf]; omega
        · obtain ⟨c1, b1⟩ := hdr.done
          have hz : k - j = 0 := by omega
          rw [hz] at c1
          have BB : Hid (Below w.heap.size w wr) := b1
          clear hz b1 hdr
          go_wp2
          go_ret
          exact ⟨rfl, BB.out⟩

set_option maxHeartbeats 400000 in
theorem drain_many (ka : Option Addr) (v : Value) (n c : Nat) (w : World) (hn : 1024 < n) :
    Calls Yba.prog 4 #[.slice ka n c, v] w fun e w' => e = .returned (.bool true) ∧ Below w.heap.size w w' := by
  have hn2 : (1024 : Int) < (n : Int) := by omega
  go_enter Yba.func4, Yba.ntmps4
  go_wp2
  go_ret
  exact ⟨rfl, Below.refl _ _⟩

theorem drain_any (ka aa : Option Addr) (n c m ac : Nat) (K : Nat → ByteArray) (A : Nat → Int) (w : World) (hm : m ≤ 9223372036854775807)
    (hk : Elems w ka n (fun j => .string (K j))) (ha : Elems w aa m (fun j => .int .i64 (A j))) :
    Calls Yba.prog 4 #[.slice ka n c, .slice aa m ac] w fun e w' => e = .returned (.bool true) ∧ Below w.heap.size w w' := by
  by_cases h1 : n ≤ 1024
  · exact drain_walk ka aa n c m ac K A w h1 hm hk ha
  · exact drain_many ka _ n c w (by omega)
end Go.Proofs.Ybulkcwbu
