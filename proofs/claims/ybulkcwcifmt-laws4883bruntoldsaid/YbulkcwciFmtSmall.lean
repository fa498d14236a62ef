import Derived.Test.YbulkcwciFmtLeaf
namespace Go.Proofs.YbulkcwciFmt
open Go.RowKit Go.Deep Go.Extern.Stop Go.Stop Go.Extern

theorem new_any (s : ByteArray) (w : World) : Calls Ybaf.prog 7 #[.string s] w fun e w' => e = .returned (.iface 62 (.pointer (some ⟨w.heap.size, 0, none⟩))) ∧ w' = w.alloc (.cells #[.string s] 64) := by
  go_enter Ybaf.func7, Ybaf.ntmps7
  go_wp2
  go_ret
  exact ⟨rfl, rfl⟩

def walker0 (xb : Nat) : Array Value := #[.iface 46 (.pointer (some ⟨xb, 0, none⟩)), .pointer none, .slice none 0 0, .slice none 0 0, .slice none 0 0, .slice none 0 0, .int .i64 0, .slice none 0 0]
theorem walker_any (xb : Nat) (w : World) : Calls Ybaf.prog 8 #[.iface 46 (.pointer (some ⟨xb, 0, none⟩))] w fun e w' => e = .returned (.pointer (some ⟨w.heap.size, 0, none⟩)) ∧ w' = w.alloc (.cells (walker0 xb) 69) := by
  go_enter Ybaf.func8, Ybaf.ntmps8
  go_wp2
  go_ret
  exact ⟨rfl, rfl⟩

def opOf (a : Nat) : Nat := if a % 16 = 15 then 7 else a % 16 % 4
theorem opOf_or (a : Nat) : opOf a ≤ 3 ∨ opOf a = 7 := by
  unfold opOf
  split
  · exact .inr rfl
  · exact .inl (by omega)
theorem op_any (a : Nat) (ha : a < 256) (w : World) : Calls Ybaf.prog 6 #[.int .u8 a] w fun e w' => e = .returned (.int .i64 (opOf a)) ∧ w' = w := by
  by_cases h : a % 16 = 15
  · have h1 : ((a : Int) % 16 == 15) = true := by rw [beq_iff_eq]; omega
    have H : Hid (opOf a = 7) := if_pos h
    clear h
    go_enter Ybaf.func6, Ybaf.ntmps6
    go_wp2
    go_ret
    refine ⟨?_, rfl⟩
    rw [H.out]
    rfl
  · have h1 : ((a : Int) % 16 == 15) = false := by
      rw [beq_eq_false_iff_ne]; omega
    have H : Hid ((opOf a : Int) = (a : Int) % 4) := by
      show (opOf a : Int) = (a : Int) % 4
      unfold opOf
      rw [if_neg h]
      omega
    clear h
    go_enter Ybaf.func6, Ybaf.ntmps6
    go_wp2
    go_ret
    refine ⟨?_, rfl⟩
    rw [H.out]
    rfl

/-! ### errors.Is(err, sentinel), err the sentinel itself -/
theorem call14 (v : Value) (w : World) : (callFunc 14 #[.iface 62 v]).run Ybaf.prog w = .ok (.value (.iface 87 (.agg #[.pointer (some ⟨0, 62, none⟩)]))) w := by kernel_rfl
theorem call62 (w : World) : (callFunc 62 #[.agg #[.pointer (some ⟨0, 62, none⟩)]]).run Ybaf.prog w = .ok (.value (.bool true)) w := by kernel_rfl
theorem isComp : (Ybaf.prog.info? 62).map (·.comparable) = some true := by kernel_rfl
theorem isSize : (Ybaf.prog.info? 64).map (·.size) = some 1 := by kernel_rfl

set_option maxHeartbeats 400000 in
set_option maxRecDepth 100000 in
theorem is_same (b : Addr) (w : World) :
    Calls Ybaf.prog 10 #[.iface 62 (.pointer (some b)), .iface 62 (.pointer (some b))] w fun e w' => e = .returned (.bool true) ∧ w' = w := by
  obtain ⟨i, hi, hcmp⟩ := Option.map_eq_some_iff.1 isComp
  obtain ⟨j, hj, hjs⟩ := Option.map_eq_some_iff.1 isSize
  have h8 := call14
  have h32 := call62
  have heq := run_eql_iface_ptr_same (P := Ybaf.prog) w b Ybaf.underlying44 Ybaf.underlying62 hi hcmp hj
  go_enter Ybaf.func10, Ybaf.ntmps10
  go_wp2
  refine wp_loop_rounds 1 ?_
  rw [rounds_succ]
  go_wp2
  go_ret
  exact ⟨rfl, rfl⟩

/-! ### slices.Equal of two rows that hold the same -/
set_option maxRecDepth 100000 in
theorem equal_any (A B : Option Addr) (n ca cb : Nat) (f : Nat → Int) (w : World) (hA : Elems w A n (fun j => .int .i64 (f j))) (hB : Elems w B n (fun j => .int .i64 (f j))) (hn : n ≤ 1000000) :
    Calls Ybaf.prog 11 #[.slice A n ca, .slice B n cb] w fun e w' => e = .returned (.bool true) ∧ ∃ m, w' = w.drewN m := by
  go_enter Ybaf.func11, Ybaf.ntmps11
  go_wp2
  go_loopw [13] (fun v13 wr => ∃ i : Nat, i ≤ n ∧ v13 = .int .i64 i ∧ ∃ m, wr = w.drewN m) (fun v13 _ => n - (intOf v13).toNat)
  case atStart => exact ⟨0, Nat.zero_le _, rfl, 0, rfl⟩
  case round =>
    obtain ⟨i, hi, rfl, m, rfl⟩ := hrel
    by_cases hlt : i < n
    · obtain ⟨b, o, rfl, -, hc⟩ := hA (by omega)
      obtain ⟨b2, o2, rfl, -, hc2⟩ := hB (by omega)
      have c1 : w.cell? ⟨b, o + i, none⟩ = some (.int .i64 (f i)) := hc i hlt
      have c2 : w.cell? ⟨b2, o2 + i, none⟩ = some (.int .i64 (f i)) := hc2 i hlt
      clear hc hc2 hA hB
      go_wp2_with fail
      go_quiet (fail)
      go_wp2
      go_roundw
      case rel => exact ⟨i + 1, hlt, by go_num, _, rfl⟩
      case measure => simp [intOf]; omega
    · obtain rfl : i = n := by omega
      clear hA hB
      go_wp2
      go_ret
      exact ⟨rfl, _, rfl⟩
end Go.Proofs.YbulkcwciFmt
