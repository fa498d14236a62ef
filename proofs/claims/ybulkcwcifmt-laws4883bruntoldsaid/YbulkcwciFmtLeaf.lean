import Derived.Test.YbulkcwciFmtBase
namespace Go.Proofs.YbulkcwciFmt
open Go.RowKit Go.Deep

theorem Ybaf.info3 : (Ybaf.prog.info? 3).map (fun i => (i.zero, i.size, i.bytes)) = some (some (.int .i64 0), 1, 8) := by kernel_rfl
theorem Ybaf.info4 : (Ybaf.prog.info? 4).map (fun i => (i.zero, i.size, i.bytes)) = some (some (.bool false), 1, 1) := by kernel_rfl

def GuardEnd (c : Cfg) (b : Bool) (k ends : Nat) (log : List Int) (cv : Value) (cs : List Bool) (ov : Value) (os : List Bool) (e : Ending) (w' : World) : Prop :=
  e = .returned (.tuple #[.bool b, .nilIface]) ∧ St c k ends log cv cs ov os w'

set_option maxRecDepth 100000 in
theorem guard_any {c : Cfg} {k ends : Nat} {log : List Int} {cv ov : Value} {cs os : List Bool} {w : World} (ev : Value) (GA : Option Addr) (gl gc : Nat) (G : Nat → Bool) (h : St c k ends log cv cs ov os w) (hg : c.gs = .slice GA gl gc) (hk : k ≤ 1000000)
    (hc : k < gl → ∃ b o, GA = some ⟨b, o, none⟩ ∧ w.cell? ⟨b, o + k, none⟩ = some (.bool (G k))) :
    Calls Ybaf.prog 53 #[.pointer (some ⟨c.xb, 0, none⟩), ev] w fun e w' => GuardEnd c (if k < gl then G k else false) (k + 1) ends log cv cs ov os e w' := by
  obtain ⟨lv, hs⟩ := h
  have x0 := cell_of hs.2.2.1 0
  have x1 := cell_of hs.2.2.1 1
  have f1 := free_of hs.2.2.1 1
  simp at x0 x1
  rw [hg] at x0
  have HS : Hid (StL c k ends log lv cv cs ov os w) := hs
  clear hs hg
  by_cases hlt : k < gl
  · obtain ⟨b, o, rfl, hc2⟩ := hc hlt
    clear hc
    go_enter Ybaf.func53, Ybaf.ntmps53
    go_wp2_with fail
    go_quiet (fail)
    go_wp2_with fail
    go_quiet (fail)
    go_wp2
    go_ret2
    refine ⟨rfl, lv, ?_⟩
    exact (HS.out.setK (k' := k + 1)).same rfl rfl rfl rfl
  · clear hc
    go_enter Ybaf.func53, Ybaf.ntmps53
    go_wp2_with fail
    go_quiet (fail)
    go_wp2_with fail
    go_ret2
    refine ⟨rfl, lv, ?_⟩
    exact (HS.out.setK (k' := k + 1)).same rfl rfl rfl rfl

theorem always_any (xb : Nat) (w : World) : Calls Ybaf.prog 48 #[.pointer (some ⟨xb, 0, none⟩)] w fun e w' => e = .returned (.bool true) ∧ w' = w := by
  go_enter Ybaf.func48, Ybaf.ntmps48
  go_wp2
  go_ret
  exact ⟨rfl, rfl⟩

def Elems (w : World) (a : Option Addr) (n : Nat) (f : Nat → Value) : Prop := 0 < n → ∃ b o, a = some ⟨b, o, none⟩ ∧ b < w.heap.size ∧ ∀ j, j < n → w.cell? ⟨b, o + j, none⟩ = some (f j)

set_option maxRecDepth 100000 in
theorem none_any (xb : Nat) (A : Option Addr) (n m : Nat) (B : Nat → Bool) (w : World) (h : Elems w A n (fun j => .bool (B j))) (hn : n ≤ 1000000) :
    Calls Ybaf.prog 55 #[.pointer (some ⟨xb, 0, none⟩), .slice A n m] w fun e w' => e = .returned (.bool ((List.range n).all fun j => !B j)) ∧ w' = w := by
  go_enter Ybaf.func55, Ybaf.ntmps55
  go_wp2
  go_loop [6, 9] (fun _ v9 => ∃ i : Nat, i ≤ n ∧ v9 = .int .i64 i ∧ ∀ j, j < i → B j = false) (fun _ v9 => n - (intOf v9).toNat)
  case atStart => exact ⟨0, Nat.zero_le _, rfl, fun j hj => absurd hj (by omega)⟩
  case round =>
    obtain ⟨i, hi, rfl, hx⟩ := hrel
    have HX : Hid (∀ j, j < i → B j = false) := hx
    clear hx
    by_cases hlt : i < n
    · obtain ⟨b, o, rfl, -, hc⟩ := h (by omega)
      have c1 := hc i hlt
      clear hc h
      cases hb : B i
      · simp only [hb] at c1
        go_wp2
        go_round
        case rel => exact ⟨i + 1, hlt, by go_num, fun j hj => by
          by_cases e : j = i
          · rw [e]; exact hb
          · exact HX.out j (by omega)⟩
        case measure => simp [intOf]; omega
      · simp only [hb] at c1
        go_wp2
        go_ret
        refine ⟨?_, rfl⟩
        have : ((List.range n).all fun j => !B j) = false := by
          rw [List.all_eq_false]
          exact ⟨i, List.mem_range.2 hlt, by simp [hb]⟩
        rw [this]
        rfl
    · obtain rfl : i = n := by omega
      clear h
      go_wp2
      go_ret
      refine ⟨?_, rfl⟩
      have : ((List.range i).all fun j => !B j) = true := by
        rw [List.all_eq_true]
        intro j hj
        simp [HX.out j (List.mem_range.1 hj)]
      rw [this]
      rfl

/-- x.log = append(x.log, a, b) -/
theorem news2 (w : World) (a b : Int) : ∀ j u, (ints [a, b])[j]? = some u → (w.alloc (.cells #[.int .i64 a, .int .i64 b] 3)).cell? ((⟨w.heap.size, 0, none⟩ : Addr).add j) = some u :=
  World.news_of_block (cs := #[.int .i64 a, .int .i64 b]) (heap_alloc_new w _)
theorem ints_one (l : List Int) : ∀ u ∈ ints l, u.oneCell' = true := fun u hu => by
  obtain ⟨x, _, rfl⟩ := List.mem_map.1 hu
  rfl

def LogEnd (c : Cfg) (v : Value) (k ends : Nat) (log : List Int) (cv : Value) (cs : List Bool) (ov : Value) (os : List Bool) (e : Ending) (w' : World) : Prop :=
  e = .returned v ∧ St c k ends log cv cs ov os w'

set_option maxRecDepth 100000 in
theorem stuck_any {c : Cfg} {k ends : Nat} {log : List Int} {cv ov : Value} {cs os : List Bool} {w : World} (h : St c k ends log cv cs ov os w) (hl : log.length ≤ 1000000) :
    Calls Ybaf.prog 56 #[.pointer (some ⟨c.xb, 0, none⟩)] w fun e w' => LogEnd c .nilIface k ends (log ++ [0, 0]) cv cs ov os e w' := by
  obtain ⟨i0, hi, hz0, hz1, hz2⟩ := info_parts Ybaf.info3
  obtain ⟨lv, hs⟩ := h
  have x4 := cell_of hs.2.2.1 4
  have f4 := free_of hs.2.2.1 4
  have xl := hs.lt.1
  have sz := hs.1.2.2.2.1
  simp at x4
  have HS : Hid (StL c k ends log lv cv cs ov os w) := hs
  clear hs
  go_enter Ybaf.func56, Ybaf.ntmps56
  go_wp2_with (at_builtin; refine wpList_append_lies _ rfl _ _ 31 rfl c.w0.heap.size 3 i0 (.int .i64 0) 1 8 Ybaf.underlying31 hi hz0 hz1 hz2 rfl (by omega) lv log.length (ints log) rfl ((HS.out.2.2.2.2.1).alloc _) ⟨w.heap.size, 0, none⟩ 2 2 (ints [0, 0]) rfl rfl (news2 w 0 0) (ints_one _) (by omega) (by unfold maxLen; omega) (by omega) (by simp; omega) _ rfl ?_)
  intro g cap w1 hown hgrow hat hlt
  have hx := (HS.out.alloc _).grown_xb hgrow
  have y4 := cell_of hx 4
  have g4 := free_of hx 4
  simp at y4
  have HN : Hid (StL c k ends (log ++ [0, 0]) (.slice (some ⟨g, 0, none⟩) (log.length + 2) cap) cv cs ov os (w1.setCell ⟨c.xb, 4, none⟩ (.slice (some ⟨g, 0, none⟩) (log.length + 2) cap))) := (HS.out.alloc _).setLog (news := [0, 0]) hgrow hown
  clear hown hgrow hat hlt hx x4 f4
  go_wp2
  go_ret
  exact ⟨rfl, _, HN.out⟩
end Go.Proofs.YbulkcwciFmt
