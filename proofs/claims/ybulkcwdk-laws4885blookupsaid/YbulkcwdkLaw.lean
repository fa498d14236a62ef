import Derived.Test.YbulkcwdkLookup
namespace Go.Proofs.Ybulkcwdk
open Go.RowKit Go.Deep
open Go.Maps (has IsMap)

/-- The T in memory, its lock's state st; the map that it bears. -/
def TW (w : World) (tb bm k : Nat) (D : DataW Unit) (st : Int) (W : World) : Prop :=
  W.cell? ⟨tb, 11, none⟩ = some (.int .i32 st) ∧ W.frozen? ⟨tb, 11, none⟩ = false ∧ W.cell? ⟨tb, 27, none⟩ = some (.map (some bm)) ∧ Owns W bm k D ∧ bm ≠ tb ∧ Below w.heap.size w W ∧ w.heap.size ≤ tb

theorem TW.set {w W : World} {tb bm k : Nat} {D : DataW Unit} {st : Int} (h : TW w tb bm k D st W) (s : Int) : TW w tb bm k D s (W.setCell ⟨tb, 11, none⟩ (.int .i32 s)) := by
  obtain ⟨h1, h2, h3, h4, h5, h6, h7⟩ := h
  exact ⟨World.cell?_setCell_same W ⟨tb, 11, none⟩ _ h1, by simp [h2], (World.cell?_setCell_other W ⟨tb, 11, none⟩ ⟨tb, 27, none⟩ _ (by simp)).trans h3, h4.setCell (a := ⟨tb, 11, none⟩) h5 _, h5, h6.setCell h7 _, h7⟩

set_option maxHeartbeats 1000000 in
set_option maxRecDepth 100000 in
theorem lookup_walk (na va : Option Addr) (n nc m vc : Nat) (q : ByteArray) (K : Nat → ByteArray) (V : Nat → Bool) (w : World) (hna : na.isNone = false) (hn : n ≤ 1024) (hm : m ≤ 1024) (hq : q.size ≤ maxLen) (hK : ∀ j, j < n → (K j).size ≤ maxLen)
    (hk : Elems w na n (fun j => .string (K j))) (hv : Elems w va m (fun j => .bool (V j))) :
    Calls Yba.prog 3 #[.slice na n nc, .slice va m vc, .string q] w fun e w' => e = .returned (.bool true) ∧ Below w.heap.size w w' := by
  have hmm := @run_makeMap Yba.prog
  have HK : Hid (Elems w na n (fun j => .string (K j))) := hk
  have HV : Hid (Elems w va m (fun j => .bool (V j))) := hv
  have HS : Hid (∀ j, j < n → (K j).size ≤ maxLen) := hK
  have HQ : Hid (q.size ≤ maxLen) := hq
  clear hk hv hK hq
  go_enter Yba.func3, Yba.ntmps3
  go_wp2
  clear hmm
  go_loopw [8, 9] (fun v8 v9 wr => ∃ (k : Nat) (want : Bool), k ≤ n ∧ v9 = .int .i64 k ∧ v8 = .bool want ∧ FRel w w.heap.size K q k want wr) (fun _ v9 _ => n - (intOf v9).toNat)
  case atStart => exact ⟨0, false, Nat.zero_le _, rfl, rfl, FRel.start _ _ _⟩
  case round =>
    obtain ⟨k, want, hkn, rfl, rfl, hrel⟩ := hrel
    by_cases hlt : k < n
    · obtain ⟨nb, no, x1, x2, x3⟩ := idx22 (nc := nc) HK.out hlt
      have HR : Hid (FRel w w.heap.size K q k want wr) := hrel
      have bel : Below w.heap.size w wr := hrel.choose_spec.2.2.2.1
      have x4 := (bel.cell x2).trans x3
      have HB : Hid (Below w.heap.size w wr) := bel
      clear hrel x3 bel
      by_cases hkm : k < m
      · obtain ⟨fb, fo, y1, y2, y3⟩ := idx23 (nc := vc) HV.out hkm
        have y4 := (HB.out.cell y2).trans y3
        clear y2 y3
        obtain ⟨w2, u1, u2, u3, u4⟩ := HR.out.step (by omega) (HS.out k hlt) (V k)
        have u5 := (u2 nb (no + k) x2).trans x4
        have U3 : Hid _ := u3
        have U4 : Hid _ := u4
        clear u2 u3 u4 x2
        by_cases hkq : K k = q
        · have e1 : ((K k).toList == q.toList) = true := by rw [hkq]; simp
          have G : Hid (FRel w w.heap.size K q (k + 1) (V k) w2) := U3.out hkq
          clear hkq
          go_wp2
          go_roundw
          case rel => exact ⟨k + 1, _, hlt, by go_num, rfl, G.out⟩
          case measure => simp [intOf]; omega
        · have e1 : ((K k).toList == q.toList) = false := by
            rw [ByteArray.toList_eq, ByteArray.toList_eq]
            exact beq_eq_false_iff_ne.2 (fun h => hkq (WideShapes.bytes_inj h))
          have G : Hid (FRel w w.heap.size K q (k + 1) want w2) := U4.out hkq
          clear hkq
          go_wp2
          go_roundw
          case rel => exact ⟨k + 1, _, hlt, by go_num, rfl, G.out⟩
          case measure => simp [intOf]; omega
      · obtain ⟨w2, u1, u2, u3, u4⟩ := HR.out.step (by omega) (HS.out k hlt) true
        have u5 := (u2 nb (no + k) x2).trans x4
        have U3 : Hid _ := u3
        have U4 : Hid _ := u4
        clear u2 u3 u4 x2
        by_cases hkq : K k = q
        · have e1 : ((K k).toList == q.toList) = true := by rw [hkq]; simp
          have G : Hid (FRel w w.heap.size K q (k + 1) true w2) := U3.out hkq
          clear hkq
          go_wp2
          go_roundw
          case rel => exact ⟨k + 1, _, hlt, by go_num, rfl, G.out⟩
          case measure => simp [intOf]; omega
        · have e1 : ((K k).toList == q.toList) = false := by
            rw [ByteArray.toList_eq, ByteArray.toList_eq]
            exact beq_eq_false_iff_ne.2 (fun h => hkq (WideShapes.bytes_inj h))
          have G : Hid (FRel w w.heap.size K q (k + 1) want w2) := U4.out hkq
          clear hkq
          go_wp2
          go_roundw
          case rel => exact ⟨k + 1, _, hlt, by go_num, rfl, G.out⟩
          case measure => simp [intOf]; omega
    · obtain rfl : k = n := by omega
      obtain ⟨D, d1, d2, d3, d4, d5⟩ := hrel
      have hl1 := fun ty => d1.len Yba.underlying24 ty
      have HD : Hid (Owns wr w.heap.size k D ∧ valAt D q want ∧ (∀ i, i < k → has D (ky (K i)) = true) ∧ Below w.heap.size w wr) := ⟨d1, d2, d3, d4⟩
      clear d1 d2 d3 d4 d5
      go_wp2_with fail
      generalize hW1 : wr.alloc _ = W1
      have T1 : Hid (TW w wr.heap.size w.heap.size k D 0 W1) := by
        obtain ⟨d1, d2, d3, d4⟩ := HD.out
        rw [← hW1]
        exact ⟨by simp [go_sem], by simp [go_sem], by simp [go_sem], d1.alloc _, by have := d1.lt; omega, d4.alloc d4.size _, d4.size⟩
      clear hW1 hl1
      have hlook := look_own (T1.out.set 1).2.2.2.1 HQ.out HD.out.2.1
      refine (isHelper_any wr.heap.size _ q want W1 T1.out.1 T1.out.2.1 T1.out.2.2.1 ⟨_, rfl⟩ hlook).mono ?_
      rintro e W2 ⟨rfl, hW2⟩
      have T2 : Hid (TW w wr.heap.size w.heap.size k D 0 W2) := by rw [hW2]; exact (T1.out.set 1).set 0
      clear hlook hW2 T1
      go_wp2_with fail
      refine (tryLock_any wr.heap.size 11 W2 T2.out.1 T2.out.2.1).mono ?_
      rintro e W3 ⟨rfl, hW3⟩
      have T3 : Hid (TW w wr.heap.size w.heap.size k D 1 W3) := by rw [hW3]; exact T2.out.set 1
      clear hW3 T2
      go_wp2_with fail
      refine (unlock_any wr.heap.size 11 W3 T3.out.1 T3.out.2.1).mono ?_
      rintro e W4 ⟨rfl, hW4⟩
      have T4 : Hid (TW w wr.heap.size w.heap.size k D 0 W4) := by rw [hW4]; exact T3.out.set 0
      clear hW4 T3
      have c27 := T4.out.2.2.1
      have hl2 := fun ty => T4.out.2.2.2.1.len Yba.underlying24 ty
      go_wp2_with fail
      clear hl2
      obtain ⟨wo, rfl⟩ : ∃ wo : World, wo = wr := ⟨_, rfl⟩
      go_loopw [14] (fun v wx => ∃ i : Nat, i ≤ k ∧ v = .int .i64 i ∧ ∃ nq, wx = W4.drewN nq) (fun v _ => k - (intOf v).toNat)
      case atStart => exact ⟨0, Nat.zero_le _, rfl, 0, rfl⟩
      case round =>
        obtain ⟨i, hi, rfl, nq, rfl⟩ := hrel
        by_cases hik : i < k
        · obtain ⟨nb, no, x1, x2, x3⟩ := idx22 (nc := nc) HK.out hik
          have x4 := (T4.out.2.2.2.2.2.1.cell x2).trans x3
          obtain ⟨v, hv⟩ := look_ok_all (HS.out i hik) (HD.out.2.2.1 i hik) T4.out.2.2.2.1
          have hv2 : ∀ a b, (Instr.lookup 24 (.map (some w.heap.size)) (.string (K i)) true).run Yba.prog ((W4.drewN a).drewN b) = .ok (.tuple #[.bool v, .bool true]) ((W4.drewN a).drewN b) := fun a b => by
            rw [show (W4.drewN a).drewN b = W4.drewN (a + b) from by simp [World.drewN, Nat.add_assoc]]
            exact hv (a + b)
          clear x2 x3
          go_wp2_with fail
          go_quiet (fail)
          go_wp2
          go_roundw
          case rel => exact ⟨i + 1, hik, by go_num, _, rfl⟩
          case measure => simp [intOf]; omega
        · go_wp2
          go_ret
          exact ⟨rfl, below_drewN T4.out.2.2.2.2.2.1 _⟩
end Go.Proofs.Ybulkcwdk
