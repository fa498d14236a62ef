import Derived.Test.YbulkcwemFmtDec
namespace Go.Proofs.YbulkcwemFmt
open Go.RowKit Go.Deep Go.Extern.Stop Go.Stop Go.Extern

/-- A slice of bytes that lies in memory: n elements, element j holds 'P j'. -/
def Bytes (w : World) (a : Option Addr) (n : Nat) (P : Nat → Nat) : Prop :=
  (∀ j, j < n → P j < 256) ∧ (0 < n → ∃ b o, a = some ⟨b, o, none⟩ ∧ b < w.heap.size ∧ ∀ j, j < n → w.cell? ⟨b, o + j, none⟩ = some (.int .u8 (P j)))

/-- The sentinel ErrProtocol, in memory. -/
def Sent (w : World) (ea : Addr) (es : ByteArray) : Prop := w.cell? ⟨0, 0, none⟩ = some (.iface 94 (.pointer (some ea))) ∧ w.cell? ea = some (.string es)

/-- What ParseRegisterReplica gives. -/
def ParseEnd (P : Nat → Nat) (n : Nat) (ea : Addr) (w : World) (e : Ending) (w' : World) : Prop :=
  Below w.heap.size w w' ∧ ((whole P n = true ∧ e = .returned (.tuple #[.int .u32 (le32 P), .nilIface])) ∨
    (whole P n = false ∧ ∃ g, e = .returned (.tuple #[.int .u32 0, .iface 73 (.pointer (some ⟨g, 0, none⟩))]) ∧ w'.cell? ⟨g, 1, none⟩ = some (.iface 94 (.pointer (some ea)))))

/-- The loop of three. -/
def PRel (w : World) (db n : Nat) (P : Nat → Nat) (i : Nat) (id : Int) (wr : World) : Prop :=
  DS wr db n P (skip P n i) ∧ (4 ≤ n → id = le32 P) ∧ wr.os = w.os ∧ wr.tape = w.tape ∧ wr.output = w.output ∧ w.heap.size ≤ db ∧ db < wr.heap.size ∧ w.heap.size ≤ wr.heap.size ∧ ∀ k, k < w.heap.size → wr.heap[k]? = w.heap[k]?

theorem PRel.below {w wr : World} {db n i : Nat} {P : Nat → Nat} {id : Int} (h : PRel w db n P i id wr) : Below w.heap.size w wr := ⟨h.2.2.1, h.2.2.2.1, h.2.2.2.2.1, h.2.2.2.2.2.2.2.1, h.2.2.2.2.2.2.2.2⟩
theorem PRel.next {w wr w' : World} {db n i j : Nat} {P : Nat → Nat} {id : Int} (h : PRel w db n P i id wr) (hd : DS w' db n P (skip P n j)) (ho : OnlyDb db wr w') : PRel w db n P j id w' := by
  obtain ⟨h1, h2, h3, h4, h5, h6, h7, h8, h9⟩ := h
  exact ⟨hd, h2, ho.1.trans h3, ho.2.1.trans h4, ho.2.2.1.trans h5, h6, Nat.lt_of_lt_of_le h7 ho.2.2.2.1, Nat.le_trans h8 ho.2.2.2.1, fun k hk => (ho.2.2.2.2 k (by omega) (by omega)).trans (h9 k hk)⟩

/-- d := decoder{b: p}; id := d.uint32() -/
theorem first_any (A : Option Addr) (n C : Nat) (P : Nat → Nat) (w : World) (hn : n ≤ C) (hC : C ≤ 9223372036854775807) (hB : Bytes w A n P) :
    Calls Ybaf.prog 14 #[.pointer (some ⟨w.heap.size, 0, none⟩)] (w.alloc (.cells #[.slice A n C, .bool false] 54)) fun e w' => ∃ id, e = .returned (.int .u32 id) ∧ PRel w w.heap.size n P 0 id w' := by
  have c0 : (w.alloc (.cells #[.slice A n C, .bool false] 54)).cell? ⟨w.heap.size, 0, none⟩ = some (.slice A n C) := by simp [go_sem]
  have c1 : (w.alloc (.cells #[.slice A n C, .bool false] 54)).cell? ⟨w.heap.size, 1, none⟩ = some (.bool false) := by simp [go_sem]
  have f0 : (w.alloc (.cells #[.slice A n C, .bool false] 54)).frozen? ⟨w.heap.size, 0, none⟩ = false := by simp [go_sem]
  have f1 : (w.alloc (.cells #[.slice A n C, .bool false] 54)).frozen? ⟨w.heap.size, 1, none⟩ = false := by simp [go_sem]
  have hsz : (w.alloc (.cells #[.slice A n C, .bool false] 54)).heap.size = w.heap.size + 1 := by simp
  have hbel : Below w.heap.size w (w.alloc (.cells #[.slice A n C, .bool false] 54)) := (Below.refl _ _).alloc (Nat.le_refl _) _
  generalize w.alloc (.cells #[.slice A n C, .bool false] 54) = W0 at *
  by_cases h4 : n < 4
  · refine (uint32_over w.heap.size n C A W0 h4 c0 c1 f1).mono ?_
    rintro e w' ⟨rfl, hs, ho⟩
    refine ⟨0, rfl, ?_, fun h => absurd h (by omega), ho.1.trans hbel.os, ho.2.1.trans hbel.tape, ho.2.2.1.trans hbel.output, Nat.le_refl _, by have := ho.2.2.2.1; omega, by have := ho.2.2.2.1; omega, fun k hk => (ho.2.2.2.2 k (by omega) (by omega)).trans (hbel.block k hk)⟩
    show DS w' w.heap.size n P (if 4 ≤ n then some 4 else none)
    rw [if_neg (by omega)]
    exact hs
  · obtain ⟨hP, hBb⟩ := hB
    obtain ⟨b, o, rfl, hb, hc⟩ := hBb (by omega)
    have hd : Dec W0 w.heap.size n 0 P := ⟨Nat.zero_le _, c1, f0, f1, b, o, C, c0, by omega, hC, by omega, fun j hj => by
      have := (hbel.cell (p := ⟨b, o + j, none⟩) hb).trans (hc j (by omega))
      simpa using this⟩
    refine (uint32_dec hd (by omega) (fun j hj => hP j (by omega))).mono ?_
    rintro e w' ⟨rfl, hs, ho⟩
    refine ⟨le32 P, rfl, ?_, fun _ => rfl, ho.1.trans hbel.os, ho.2.1.trans hbel.tape, ho.2.2.1.trans hbel.output, Nat.le_refl _, by have := ho.2.2.2.1; omega, by have := ho.2.2.2.1; omega, fun k hk => (ho.2.2.2.2 k (by omega) (by omega)).trans (hbel.block k hk)⟩
    show DS w' w.heap.size n P (if 4 ≤ n then some 4 else none)
    rw [if_pos (by omega)]
    exact hs

/-- In the midst of a round: the length byte has been read. -/
def MidS (w : World) (db n : Nat) (P : Nat → Nat) (i v : Nat) : Prop :=
  (skip P n i = none ∧ Short w db) ∨ (∃ pos, skip P n i = some pos ∧ pos < n ∧ Dec w db n (pos + 1) P ∧ v = P pos) ∨ (∃ pos, skip P n i = some pos ∧ n ≤ pos ∧ Short w db)

theorem mid1 {wr : World} {db n i : Nat} {P : Nat → Nat} (hP : ∀ j, j < n → P j < 256) (h : DS wr db n P (skip P n i)) :
    Calls Ybaf.prog 16 #[.pointer (some ⟨db, 0, none⟩)] wr fun e w' => ∃ v : Nat, v < 256 ∧ e = .returned (.int .u8 v) ∧ MidS w' db n P i v ∧ OnlyDb db wr w' := by
  cases hs : skip P n i with
  | none =>
    rw [hs] at h
    refine (uint8_was_short h).mono ?_
    rintro e w' ⟨rfl, h1, h2⟩
    exact ⟨0, by omega, rfl, .inl ⟨hs, h1⟩, h2⟩
  | some pos =>
    rw [hs] at h
    by_cases hp : pos < n
    · refine (uint8_dec h hp).mono ?_
      rintro e w' ⟨rfl, h1, h2⟩
      exact ⟨P pos, hP pos hp, rfl, .inr (.inl ⟨pos, hs, hp, h1, rfl⟩), h2⟩
    · refine (uint8_dec_short h (by omega)).mono ?_
      rintro e w' ⟨rfl, h1, h2⟩
      exact ⟨0, by omega, rfl, .inr (.inr ⟨pos, hs, by omega, h1⟩), h2⟩

theorem mid2 {w : World} {db n i v : Nat} {P : Nat → Nat} (x : Int) (hx : x = v) (h : MidS w db n P i v) :
    Calls Ybaf.prog 15 #[.pointer (some ⟨db, 0, none⟩), .int .i64 x] w fun e w' => (∃ sv, e = .returned sv) ∧ DS w' db n P (skip P n (i + 1)) ∧ OnlyDb db w w' := by
  rcases h with ⟨hs, h⟩ | ⟨pos, hs, hp, h, rfl⟩ | ⟨pos, hs, hp, h⟩
  · have e1 : skip P n (i + 1) = none := by simp [skip, hs]
    rw [e1]
    refine (bytes_was_short h x).mono ?_
    rintro e w' ⟨rfl, h1, h2⟩
    exact ⟨⟨_, rfl⟩, h1, h2⟩
  · by_cases hl : pos + 1 + P pos ≤ n
    · have e1 : skip P n (i + 1) = some (pos + 1 + P pos) := by simp [skip, hs, hp, hl]
      rw [e1]
      refine (bytes_dec h (P pos) x hx hl).mono ?_
      rintro e w' ⟨b, o, rfl, h1, h2, _⟩
      exact ⟨⟨_, rfl⟩, h1, h2⟩
    · have e1 : skip P n (i + 1) = none := by simp [skip, hs]; intro _; omega
      rw [e1]
      refine (bytes_dec_short h x (by omega)).mono ?_
      rintro e w' ⟨rfl, h1, h2⟩
      exact ⟨⟨_, rfl⟩, h1, h2⟩
  · have e1 : skip P n (i + 1) = none := by simp [skip, hs]; intro _; omega
    rw [e1]
    refine (bytes_was_short h x).mono ?_
    rintro e w' ⟨rfl, h1, h2⟩
    exact ⟨⟨_, rfl⟩, h1, h2⟩

theorem last_any {w : World} {db n : Nat} {P : Nat → Nat} (h : DS w db n P (skip P n 3)) :
    Calls Ybaf.prog 15 #[.pointer (some ⟨db, 0, none⟩), .int .i64 10] w fun e w' => (∃ sv, e = .returned sv) ∧ w'.cell? ⟨db, 1, none⟩ = some (.bool (!whole P n)) ∧ OnlyDb db w w' := by
  cases hs : skip P n 3 with
  | none =>
    rw [hs] at h
    have e1 : whole P n = false := by simp [whole, hs]
    rw [e1]
    refine (bytes_was_short h 10).mono ?_
    rintro e w' ⟨rfl, h1, h2⟩
    exact ⟨⟨_, rfl⟩, h1.1, h2⟩
  | some pos =>
    rw [hs] at h
    by_cases hp : pos + 10 ≤ n
    · have e1 : whole P n = true := by simp [whole, hs, hp]
      rw [e1]
      refine (bytes_dec h 10 10 rfl hp).mono ?_
      rintro e w' ⟨b, o, rfl, h1, h2, _⟩
      exact ⟨⟨_, rfl⟩, h1.2.1, h2⟩
    · have e1 : whole P n = false := by simp [whole, hs]; omega
      rw [e1]
      refine (bytes_dec_short h 10 (by omega)).mono ?_
      rintro e w' ⟨rfl, h1, h2⟩
      exact ⟨⟨_, rfl⟩, h1.1, h2⟩

theorem skip_ge {P : Nat → Nat} {n : Nat} : ∀ {i pos : Nat}, skip P n i = some pos → 4 ≤ n
  | 0, pos, h => by
    unfold skip at h
    by_cases h4 : 4 ≤ n
    · exact h4
    · rw [if_neg h4] at h; cases h
  | i + 1, pos, h => by
    unfold skip at h
    cases hs : skip P n i with
    | none => rw [hs] at h; cases h
    | some p => exact skip_ge hs
theorem whole_ge {P : Nat → Nat} {n : Nat} (h : whole P n = true) : 4 ≤ n := by
  unfold whole at h
  cases hs : skip P n 3 with
  | none => rw [hs] at h; cases h
  | some p => exact skip_ge hs

set_option maxHeartbeats 1000000 in
set_option maxRecDepth 100000 in
theorem parse_any (F : Interp) (A : Option Addr) (n C : Nat) (P : Nat → Nat) (ea : Addr) (es : ByteArray) (w : World) (hF : F.answers w.tape) (hn : n ≤ C) (hC : C ≤ 9223372036854775807) (hB : Bytes w A n P) (hS : Sent w ea es) :
    Calls Ybaf.prog 9 #[.slice A n C] w fun e w' => ParseEnd P n ea w e w' := by
  have HF : Hid (F.answers w.tape) := hF
  have HB : Hid (Bytes w A n P) := hB
  have HS : Hid (Sent w ea es) := hS
  clear hF hB hS
  go_enter Ybaf.func9, Ybaf.ntmps9
  go_wp2_with fail
  refine (first_any A n C P w hn hC HB.out).mono ?_
  rintro e w1 ⟨id, rfl, hp⟩
  have HP : Hid (PRel w w.heap.size n P 0 id w1) := hp
  clear hp
  go_wp2_with fail
  go_loopw [9] (fun v wr => ∃ i : Nat, i ≤ 3 ∧ v = .int .i64 i ∧ PRel w w.heap.size n P i id wr) (fun v _ => 3 - (intOf v).toNat)
  case atStart => exact ⟨0, by omega, rfl, HP.out⟩
  case round =>
    obtain ⟨i, hi, rfl, hrel⟩ := hrel
    have HR : Hid (PRel w w.heap.size n P i id wr) := hrel
    clear hrel
    by_cases hlt : i < 3
    · go_wp2_with fail
      refine (mid1 HB.out.1 HR.out.1).mono ?_
      rintro e w2 ⟨v, hv, rfl, hm, ho⟩
      have HM : Hid (MidS w2 w.heap.size n P i v ∧ OnlyDb w.heap.size wr w2) := ⟨hm, ho⟩
      clear hm ho
      go_wp2_with fail
      refine (mid2 _ rfl HM.out.1).mono ?_
      rintro e w3 ⟨⟨sv, rfl⟩, hd, ho⟩
      have HN : Hid (PRel w w.heap.size n P (i + 1) id w3) := HR.out.next hd (HM.out.2.trans ho)
      clear hd ho
      go_wp2
      go_roundw
      case rel => exact ⟨i + 1, hlt, by go_num, HN.out⟩
      case measure => simp [intOf]; omega
    · obtain rfl : i = 3 := by omega
      go_wp2_with fail
      refine (last_any HR.out.1).mono ?_
      rintro e w2 ⟨⟨sv, rfl⟩, c1, ho⟩
      have hbel : Below w.heap.size w w2 := HR.out.below.trans ⟨ho.1, ho.2.1, ho.2.2.1, ho.2.2.2.1, fun k hk => ho.2.2.2.2 k (by have := HR.out.2.2.2.2.2.2.2.1; omega) (by omega)⟩
      have HBL : Hid (Below w.heap.size w w2) := hbel
      cases hwh : whole P n
      · rw [hwh] at c1
        obtain ⟨s0, s1⟩ := HS.out
        have k0 : w2.cell? ⟨0, 0, none⟩ = some (.iface 94 (.pointer (some ea))) := (hbel.cell (lt_of_cell s0)).trans s0
        have k1 : w2.cell? ea = some (.string es) := (hbel.cell (lt_of_cell s1)).trans s1
        have k2 : ∀ ob, (w2.alloc ob).cell? ea = some (.string es) := fun ob => (((Below.refl w2.heap.size w2).alloc (Nat.le_refl _) ob).cell (lt_of_cell k1)).trans k1
        have hop := fun ob => opPlain94_119w "fmt.errorf" ea es (w2.alloc ob) (k2 ob)
        have hF' := answers_open (show F.answers w2.tape by rw [hbel.tape]; exact HF.out)
        have g1 := call23
        have g2 := fguard
        have g3 := fmt0
        have g4 := fmt0r
        have g5 := op3_100w
        have g6 := ptr73
        have g7 := elem73
        have g8 := isError73
        have g9 := ptr94
        have g10 := elem94
        have g11 := isError94
        have HW : Hid (whole P n = false) := hwh
        clear hwh k1 k2 hbel s0 s1 ho
        go_wp2
        go_ret2
        refine ⟨?_, .inr ⟨HW.out, w2.heap.size + 1, rfl, by simp [go_sem]⟩⟩
        exact ((HBL.out.alloc HBL.out.size _).alloc (by have := HBL.out.size; simp; omega) _).drew
      · rw [hwh] at c1
        have G : Hid (ParseEnd P n ea w (.returned (.tuple #[.int .u32 id, .nilIface])) w2) := ⟨HBL.out, .inl ⟨hwh, by rw [HR.out.2.1 (whole_ge hwh)]⟩⟩
        clear hwh hbel ho
        go_wp2
        go_ret2
        exact G.out
end Go.Proofs.YbulkcwemFmt
