import Derived.Test.YbulkcwdkLaw
namespace Go.Proofs.Ybulkcwdk
open Go.RowKit Go.Deep

/-- The T in memory, its lock's state st; it bears no map. -/
def TN (w : World) (tb : Nat) (st : Int) (W : World) : Prop :=
  W.cell? ⟨tb, 11, none⟩ = some (.int .i32 st) ∧ W.frozen? ⟨tb, 11, none⟩ = false ∧ W.cell? ⟨tb, 27, none⟩ = some (.map none) ∧ Below w.heap.size w W ∧ w.heap.size ≤ tb

theorem TN.set {w W : World} {tb : Nat} {st : Int} (h : TN w tb st W) (s : Int) : TN w tb s (W.setCell ⟨tb, 11, none⟩ (.int .i32 s)) := by
  obtain ⟨h1, h2, h3, h6, h7⟩ := h
  exact ⟨World.cell?_setCell_same W ⟨tb, 11, none⟩ _ h1, by simp [h2], (World.cell?_setCell_other W ⟨tb, 11, none⟩ ⟨tb, 27, none⟩ _ (by simp)).trans h3, h6.setCell h7 _, h7⟩

set_option maxHeartbeats 1000000 in
set_option maxRecDepth 100000 in
theorem lookup_nil (va : Option Addr) (m vc : Nat) (q : ByteArray) (w : World) (hm : m ≤ 1024) (hq : q.size ≤ maxLen) :
    Calls Yba.prog 3 #[.slice none 0 0, .slice va m vc, .string q] w fun e w' => e = .returned (.bool true) ∧ Below w.heap.size w w' := by
  have HQ : Hid (q.size ≤ maxLen) := hq
  have hl1 := fun (W : World) ty => Maps.len_nil (P := Yba.prog) (w := W) Yba.underlying24 ty
  clear hq
  go_enter Yba.func3, Yba.ntmps3
  go_wp2_with fail
  refine wp_loop_rounds 1 ?_
  rw [rounds_succ]
  go_wp2_with fail
  generalize hW1 : w.alloc _ = W1
  have T1 : Hid (TN w w.heap.size 0 W1) := by
    rw [← hW1]
    exact ⟨by simp [go_sem], by simp [go_sem], by simp [go_sem], (Below.refl _ _).alloc (Nat.le_refl _) _, Nat.le_refl _⟩
  clear hW1
  have hlook := look_nil (w := W1.setCell ⟨w.heap.size, 11, none⟩ (.int .i32 1)) HQ.out
  refine (isHelper_any w.heap.size _ q false W1 T1.out.1 T1.out.2.1 T1.out.2.2.1 ⟨_, rfl⟩ hlook).mono ?_
  rintro e W2 ⟨rfl, hW2⟩
  have T2 : Hid (TN w w.heap.size 0 W2) := by rw [hW2]; exact (T1.out.set 1).set 0
  clear hlook hW2 T1
  go_wp2_with fail
  refine (tryLock_any w.heap.size 11 W2 T2.out.1 T2.out.2.1).mono ?_
  rintro e W3 ⟨rfl, hW3⟩
  have T3 : Hid (TN w w.heap.size 1 W3) := by rw [hW3]; exact T2.out.set 1
  clear hW3 T2
  go_wp2_with fail
  refine (unlock_any w.heap.size 11 W3 T3.out.1 T3.out.2.1).mono ?_
  rintro e W4 ⟨rfl, hW4⟩
  have T4 : Hid (TN w w.heap.size 0 W4) := by rw [hW4]; exact T3.out.set 0
  clear hW4 T3
  have c27 := T4.out.2.2.1
  go_wp2_with fail
  refine wp_loop_rounds 1 ?_
  rw [rounds_succ]
  go_wp2
  go_ret
  exact ⟨rfl, T4.out.2.2.2.1⟩

set_option maxHeartbeats 400000 in
set_option maxRecDepth 100000 in
theorem lookup_many (na va : Option Addr) (n nc m vc : Nat) (v : Value) (w : World) (h : 1024 < n ∨ 1024 < m) :
    Calls Yba.prog 3 #[.slice na n nc, .slice va m vc, v] w fun e w' => e = .returned (.bool true) ∧ Below w.heap.size w w' := by
  by_cases h1 : 1024 < n
  · have hn : (1024 : Int) < (n : Int) := by omega
    go_enter Yba.func3, Yba.ntmps3
    go_wp2
    go_ret
    exact ⟨rfl, Below.refl _ _⟩
  · have hn : ¬ (1024 : Int) < (n : Int) := by omega
    have hm : (1024 : Int) < (m : Int) := by omega
    go_enter Yba.func3, Yba.ntmps3
    go_wp2
    go_ret
    exact ⟨rfl, Below.refl _ _⟩

theorem lookup_any (na va : Option Addr) (n nc m vc : Nat) (q : ByteArray) (K : Nat → ByteArray) (V : Nat → Bool) (w : World) (hq : q.size ≤ maxLen) (hK : ∀ j, j < n → (K j).size ≤ maxLen)
    (hnil : na = none → n = 0 ∧ nc = 0) (hk : Elems w na n (fun j => .string (K j))) (hv : Elems w va m (fun j => .bool (V j))) :
    Calls Yba.prog 3 #[.slice na n nc, .slice va m vc, .string q] w fun e w' => e = .returned (.bool true) ∧ Below w.heap.size w w' := by
  by_cases h : 1024 < n ∨ 1024 < m
  · exact lookup_many na va n nc m vc _ w h
  · cases na with
    | none =>
      obtain ⟨rfl, rfl⟩ := hnil rfl
      exact lookup_nil va m vc q w (by omega) hq
    | some a => exact lookup_walk (some a) va n nc m vc q K V w rfl (by omega) (by omega) hq hK hk hv
end Go.Proofs.Ybulkcwdk
