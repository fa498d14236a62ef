import Derived.Test.YbulkcwemFmtFacts
import Derived.Deep.QuietTactic
import Derived.BigQuiet
import Derived.Deep.OwnRows
namespace Go.Proofs.YbulkcwemFmt
open Go.RowKit Go.Deep

def BytesEnd (db b o L k : Nat) (w : World) (e : Ending) (w' : World) : Prop :=
  e = .returned (.slice (some ⟨b, o, none⟩) k k) ∧ ∃ o' C', (k < L → o' = o + k) ∧ L - k ≤ C' ∧ C' ≤ 9223372036854775807 ∧ w' = w.setCell ⟨db, 0, none⟩ (.slice (some ⟨b, o', none⟩) (L - k) C')

set_option maxHeartbeats 400000 in
set_option maxRecDepth 100000 in
theorem bytes_ok (db b o L C k : Nat) (x : Int) (w : World) (hC : C ≤ 9223372036854775807) (hLC : L ≤ C) (hk : k ≤ L) (hx : x = k)
    (c0 : w.cell? ⟨db, 0, none⟩ = some (.slice (some ⟨b, o, none⟩) L C)) (c1 : w.cell? ⟨db, 1, none⟩ = some (.bool false)) (f0 : w.frozen? ⟨db, 0, none⟩ = false) :
    Calls Ybaf.prog 15 #[.pointer (some ⟨db, 0, none⟩), .int .i64 x] w fun e w' => BytesEnd db b o L k w e w' := by
  subst hx
  have h1 : ¬ (k : Int) < 0 := by omega
  have h2 : ¬ (L : Int) < (k : Int) := by omega
  by_cases hCk : C = k
  · have HC : Hid (C = k) := hCk
    obtain rfl : L = k := by omega
    have G : Hid (BytesEnd db b o L L w (.returned (.slice (some ⟨b, o, none⟩) L L)) (w.setCell ⟨db, 0, none⟩ (.slice (some ⟨b, o, none⟩) 0 0))) := ⟨rfl, o, 0, fun h => absurd h (by omega), by omega, by omega, by simp⟩
    subst hCk
    go_enter Ybaf.func15, Ybaf.ntmps15
    go_wp2
    go_ret
    exact G.out
  · have G : Hid (BytesEnd db b o L k w (.returned (.slice (some ⟨b, o, none⟩) k k)) (w.setCell ⟨db, 0, none⟩ (.slice (some ⟨b, o + k, none⟩) (L - k) (C - k)))) := ⟨rfl, o + k, C - k, fun _ => rfl, by omega, by omega, rfl⟩
    go_enter Ybaf.func15, Ybaf.ntmps15
    go_wp2
    go_ret
    exact G.out

set_option maxHeartbeats 400000 in
set_option maxRecDepth 100000 in
theorem bytes_over (db L C : Nat) (A : Option Addr) (x : Int) (w : World) (hL : (L : Int) < x)
    (c0 : w.cell? ⟨db, 0, none⟩ = some (.slice A L C)) (c1 : w.cell? ⟨db, 1, none⟩ = some (.bool false)) (f1 : w.frozen? ⟨db, 1, none⟩ = false) :
    Calls Ybaf.prog 15 #[.pointer (some ⟨db, 0, none⟩), .int .i64 x] w fun e w' => e = .returned (.slice none 0 0) ∧ w' = w.setCell ⟨db, 1, none⟩ (.bool true) := by
  have h1 : ¬ x < 0 := by omega
  go_enter Ybaf.func15, Ybaf.ntmps15
  go_wp2
  go_ret
  exact ⟨rfl, rfl⟩

set_option maxHeartbeats 400000 in
set_option maxRecDepth 100000 in
theorem bytes_short (db : Nat) (x : Int) (w : World) (c1 : w.cell? ⟨db, 1, none⟩ = some (.bool true)) (f1 : w.frozen? ⟨db, 1, none⟩ = false) :
    Calls Ybaf.prog 15 #[.pointer (some ⟨db, 0, none⟩), .int .i64 x] w fun e w' => e = .returned (.slice none 0 0) ∧ w' = w.setCell ⟨db, 1, none⟩ (.bool true) := by
  go_enter Ybaf.func15, Ybaf.ntmps15
  go_wp2
  go_ret
  exact ⟨rfl, rfl⟩

/-- The decoder at block db, not short: it stands at 'pos' of the n bytes P. -/
def Dec (w : World) (db n pos : Nat) (P : Nat → Nat) : Prop :=
  pos ≤ n ∧ w.cell? ⟨db, 1, none⟩ = some (.bool false) ∧ w.frozen? ⟨db, 0, none⟩ = false ∧ w.frozen? ⟨db, 1, none⟩ = false ∧
    ∃ b o C, w.cell? ⟨db, 0, none⟩ = some (.slice (some ⟨b, o, none⟩) (n - pos) C) ∧ n - pos ≤ C ∧ C ≤ 9223372036854775807 ∧ b ≠ db ∧ ∀ j, j < n - pos → w.cell? ⟨b, o + j, none⟩ = some (.int .u8 (P (pos + j)))
/-- .. short. -/
def Short (w : World) (db : Nat) : Prop := w.cell? ⟨db, 1, none⟩ = some (.bool true) ∧ w.frozen? ⟨db, 1, none⟩ = false

theorem Dec.after {w : World} {db n pos b o k o' C' C : Nat} {P : Nat → Nat} (hp : pos + k ≤ n) (c1 : w.cell? ⟨db, 1, none⟩ = some (.bool false)) (f0 : w.frozen? ⟨db, 0, none⟩ = false) (f1 : w.frozen? ⟨db, 1, none⟩ = false)
    (c0 : w.cell? ⟨db, 0, none⟩ = some (.slice (some ⟨b, o, none⟩) (n - pos) C)) (hb : b ≠ db) (hc : ∀ j, j < n - pos → w.cell? ⟨b, o + j, none⟩ = some (.int .u8 (P (pos + j))))
    (h1 : k < n - pos → o' = o + k) (h2 : n - pos - k ≤ C') (h3 : C' ≤ 9223372036854775807) : Dec (w.setCell ⟨db, 0, none⟩ (.slice (some ⟨b, o', none⟩) (n - pos - k) C')) db n (pos + k) P := by
  refine ⟨hp, ?_, by simp [f0], by simp [f1], b, o', C', ?_, by omega, h3, hb, fun j hj => ?_⟩
  · rw [World.cell?_setCell_other _ ⟨db, 0, none⟩ ⟨db, 1, none⟩ _ (by simp)]; exact c1
  · rw [World.cell?_setCell_same w ⟨db, 0, none⟩ _ c0, Nat.sub_sub]
  · rw [World.cell?_setCell_other _ ⟨db, 0, none⟩ ⟨b, o' + j, none⟩ _ (fun h => hb (congrArg Addr.block h).symm), h1 (by omega)]
    have := hc (k + j) (by omega)
    rw [show o + k + j = o + (k + j) by omega, this, show pos + k + j = pos + (k + j) by omega]

/-- What a read leaves of the world: of what was there block db alone has turned. -/
def OnlyDb (db : Nat) (w w' : World) : Prop := w'.os = w.os ∧ w'.tape = w.tape ∧ w'.output = w.output ∧ w.heap.size ≤ w'.heap.size ∧ ∀ k, k < w.heap.size → k ≠ db → w'.heap[k]? = w.heap[k]?
theorem OnlyDb.set (db i : Nat) (w : World) (v : Value) : OnlyDb db w (w.setCell ⟨db, i, none⟩ v) := ⟨rfl, rfl, rfl, by simp, fun k _ hk => Below.heap_setCell _ _ _ _ hk⟩
theorem OnlyDb.trans {db : Nat} {a b c : World} (h : OnlyDb db a b) (k : OnlyDb db b c) : OnlyDb db a c :=
  ⟨k.1.trans h.1, k.2.1.trans h.2.1, k.2.2.1.trans h.2.2.1, Nat.le_trans h.2.2.2.1 k.2.2.2.1, fun i hl hi => (k.2.2.2.2 i (Nat.lt_of_lt_of_le hl h.2.2.2.1) hi).trans (h.2.2.2.2 i hl hi)⟩
theorem OnlyDb.refl (db : Nat) (w : World) : OnlyDb db w w := ⟨rfl, rfl, rfl, Nat.le_refl _, fun _ _ _ => rfl⟩
theorem OnlyDb.below {db : Nat} {w w' : World} (h : Below w.heap.size w w') : OnlyDb db w w' := ⟨h.os, h.tape, h.output, h.size, fun k hk _ => h.block k hk⟩
theorem lt_of_cell {w : World} {a : Addr} {v : Value} (h : w.cell? a = some v) : a.block < w.heap.size := by
  unfold World.cell? at h
  by_cases hlt : a.block < w.heap.size
  · exact hlt
  · rw [Array.getElem?_eq_none (by omega)] at h
    cases h
theorem Dec.below {w w' : World} {db n pos : Nat} {P : Nat → Nat} (h : Dec w db n pos P) (k : Below w.heap.size w w') : Dec w' db n pos P := by
  obtain ⟨h0, c1, f0, f1, b, o, C, c0, hC, hC2, hb, hc⟩ := h
  have hdb : db < w.heap.size := lt_of_cell c1
  exact ⟨h0, (k.cell hdb).trans c1, (k.frozen hdb).trans f0, (k.frozen hdb).trans f1, b, o, C, (k.cell hdb).trans c0, hC, hC2, hb, fun j hj => (k.cell (lt_of_cell (hc j hj))).trans (hc j hj)⟩

/-- d.bytes(k): enough is left. -/
theorem bytes_dec {w : World} {db n pos : Nat} {P : Nat → Nat} (h : Dec w db n pos P) (k : Nat) (x : Int) (hx : x = k) (hk : pos + k ≤ n) :
    Calls Ybaf.prog 15 #[.pointer (some ⟨db, 0, none⟩), .int .i64 x] w fun e w' => ∃ b o, e = .returned (.slice (some ⟨b, o, none⟩) k k) ∧ Dec w' db n (pos + k) P ∧ OnlyDb db w w' ∧ b ≠ db ∧ ∀ j, j < k → w.cell? ⟨b, o + j, none⟩ = some (.int .u8 (P (pos + j))) := by
  obtain ⟨h0, c1, f0, f1, b, o, C, c0, hC, hC2, hb, hc⟩ := h
  refine (bytes_ok db b o (n - pos) C k x w hC2 hC (by omega) hx c0 c1 f0).mono ?_
  rintro e w' ⟨rfl, o', C', h1, h2, h3, rfl⟩
  exact ⟨b, o, rfl, Dec.after hk c1 f0 f1 c0 hb hc h1 h2 h3, OnlyDb.set _ _ _ _, hb, fun j hj => hc j (by omega)⟩

/-- .. too little is left. -/
theorem bytes_dec_short {w : World} {db n pos : Nat} {P : Nat → Nat} (h : Dec w db n pos P) (x : Int) (hx : ((n - pos : Nat) : Int) < x) :
    Calls Ybaf.prog 15 #[.pointer (some ⟨db, 0, none⟩), .int .i64 x] w fun e w' => e = .returned (.slice none 0 0) ∧ Short w' db ∧ OnlyDb db w w' := by
  obtain ⟨h0, c1, f0, f1, b, o, C, c0, hC, hC2, hb, hc⟩ := h
  refine (bytes_over db (n - pos) C _ x w hx c0 c1 f1).mono ?_
  rintro e w' ⟨rfl, rfl⟩
  exact ⟨rfl, ⟨World.cell?_setCell_same w ⟨db, 1, none⟩ _ c1, by simp [f1]⟩, OnlyDb.set _ _ _ _⟩

theorem bytes_was_short {w : World} {db : Nat} (h : Short w db) (x : Int) :
    Calls Ybaf.prog 15 #[.pointer (some ⟨db, 0, none⟩), .int .i64 x] w fun e w' => e = .returned (.slice none 0 0) ∧ Short w' db ∧ OnlyDb db w w' := by
  refine (bytes_short db x w h.1 h.2).mono ?_
  rintro e w' ⟨rfl, rfl⟩
  exact ⟨rfl, ⟨World.cell?_setCell_same w ⟨db, 1, none⟩ _ h.1, by simp [h.2]⟩, OnlyDb.set _ _ _ _⟩

theorem OnlyDb.cell {db : Nat} {w w' : World} (h : OnlyDb db w w') {b o : Nat} {v : Value} (hb : b ≠ db) (hc : w.cell? ⟨b, o, none⟩ = some v) : w'.cell? ⟨b, o, none⟩ = some v := (World.cell?_of_block (w := w) (h.2.2.2.2 b (lt_of_cell hc) hb)).trans hc

set_option maxHeartbeats 400000 in
set_option maxRecDepth 100000 in
/-- d.uint8(): a byte is left. -/
theorem uint8_dec {w : World} {db n pos : Nat} {P : Nat → Nat} (h : Dec w db n pos P) (hk : pos < n) :
    Calls Ybaf.prog 16 #[.pointer (some ⟨db, 0, none⟩)] w fun e w' => e = .returned (.int .u8 (P pos)) ∧ Dec w' db n (pos + 1) P ∧ OnlyDb db w w' := by
  have H : Hid (Dec w db n pos P) := h
  clear h
  go_enter Ybaf.func16, Ybaf.ntmps16
  go_wp2_with fail
  refine (bytes_dec H.out 1 _ rfl (by omega)).mono ?_
  rintro e w1 ⟨b, o, rfl, hd, ho, hb, hc⟩
  have c : w1.cell? ⟨b, o, none⟩ = some (.int .u8 (P pos)) := ho.cell hb (by simpa using hc 0 (by omega))
  have G : Hid (Dec w1 db n (pos + 1) P ∧ OnlyDb db w w1) := ⟨hd, ho⟩
  clear hd ho hc hb
  go_wp2
  go_ret
  exact ⟨rfl, G.out⟩

set_option maxHeartbeats 400000 in
set_option maxRecDepth 100000 in
/-- .. none is left. -/
theorem uint8_dec_short {w : World} {db n pos : Nat} {P : Nat → Nat} (h : Dec w db n pos P) (hk : n ≤ pos) :
    Calls Ybaf.prog 16 #[.pointer (some ⟨db, 0, none⟩)] w fun e w' => e = .returned (.int .u8 0) ∧ Short w' db ∧ OnlyDb db w w' := by
  have H : Hid (Dec w db n pos P) := h
  clear h
  go_enter Ybaf.func16, Ybaf.ntmps16
  go_wp2_with fail
  refine (bytes_dec_short H.out _ (by omega)).mono ?_
  rintro e w1 ⟨rfl, hd, ho⟩
  have G : Hid (Short w1 db ∧ OnlyDb db w w1) := ⟨hd, ho⟩
  clear hd ho
  go_wp2
  go_ret
  exact ⟨rfl, G.out⟩

set_option maxHeartbeats 400000 in
set_option maxRecDepth 100000 in
theorem uint8_was_short {w : World} {db : Nat} (h : Short w db) :
    Calls Ybaf.prog 16 #[.pointer (some ⟨db, 0, none⟩)] w fun e w' => e = .returned (.int .u8 0) ∧ Short w' db ∧ OnlyDb db w w' := by
  have H : Hid (Short w db) := h
  clear h
  go_enter Ybaf.func16, Ybaf.ntmps16
  go_wp2_with fail
  refine (bytes_was_short H.out _).mono ?_
  rintro e w1 ⟨rfl, hd, ho⟩
  have G : Hid (Short w1 db ∧ OnlyDb db w w1) := ⟨hd, ho⟩
  clear hd ho
  go_wp2
  go_ret
  exact ⟨rfl, G.out⟩

/-- Little endian, as Go's text reckons it. -/
def le32 (P : Nat → Nat) : Int := bits .or .u32 (bits .or .u32 (bits .or .u32 (P 0 : Int) ((P 1 : Int) * 256)) ((P 2 : Int) * 65536)) ((P 3 : Int) * 16777216)

set_option maxHeartbeats 1000000 in
set_option maxRecDepth 100000 in
theorem le_any (b o : Nat) (P : Nat → Nat) (w : World) (hb : b < w.heap.size) (hP : ∀ j, j < 4 → P j < 256) (hc : ∀ j, j < 4 → w.cell? ⟨b, o + j, none⟩ = some (.int .u8 (P j))) :
    Calls Ybaf.prog 22 #[.agg #[], .slice (some ⟨b, o, none⟩) 4 4] w fun e w' => e = .returned (.int .u32 (le32 P)) ∧ Below w.heap.size w w' := by
  have cc : ∀ (j : Nat), j < 4 → ∀ ob, (w.alloc ob).cell? ⟨b, o + j, none⟩ = some (.int .u8 (P j)) := fun j hj ob => (((Below.refl w.heap.size w).alloc (Nat.le_refl _) ob).cell hb).trans (hc j hj)
  have c0 : ∀ ob, (w.alloc ob).cell? ⟨b, o, none⟩ = some (.int .u8 (P 0)) := fun ob => by simpa using cc 0 (by omega) ob
  have c1 := cc 1 (by omega)
  have c2 := cc 2 (by omega)
  have c3 := cc 3 (by omega)
  have p0 := hP 0 (by omega)
  have p1 := hP 1 (by omega)
  have p2 := hP 2 (by omega)
  have p3 := hP 3 (by omega)
  clear hc hP cc
  go_enter Ybaf.func22, Ybaf.ntmps22
  go_wp2_with fail
  go_quiet (fail)
  go_wp2
  go_ret
  exact ⟨rfl, below_drewN ((Below.refl _ _).alloc (Nat.le_refl _) _) _⟩

set_option maxHeartbeats 400000 in
set_option maxRecDepth 100000 in
/-- d.uint32() at the head of the payload. -/
theorem uint32_dec {w : World} {db n : Nat} {P : Nat → Nat} (h : Dec w db n 0 P) (hk : 4 ≤ n) (hP : ∀ j, j < 4 → P j < 256) :
    Calls Ybaf.prog 14 #[.pointer (some ⟨db, 0, none⟩)] w fun e w' => e = .returned (.int .u32 (le32 P)) ∧ Dec w' db n 4 P ∧ OnlyDb db w w' := by
  have H : Hid (Dec w db n 0 P) := h
  have HP : Hid (∀ j, j < 4 → P j < 256) := hP
  clear h hP
  go_enter Ybaf.func14, Ybaf.ntmps14
  go_wp2_with fail
  refine (bytes_dec H.out 4 _ rfl (by omega)).mono ?_
  rintro e w1 ⟨b, o, rfl, hd, ho, hb, hc⟩
  have c : Hid (∀ j, j < 4 → w1.cell? ⟨b, o + j, none⟩ = some (.int .u8 (P j))) := fun j hj => ho.cell hb (by simpa using hc j hj)
  have G : Hid (Dec w1 db n (0 + 4) P ∧ OnlyDb db w w1) := ⟨hd, ho⟩
  clear hd ho hc hb
  go_wp2_with fail
  refine (le_any b o P w1 (lt_of_cell (c.out 0 (by omega))) HP.out c.out).mono ?_
  rintro e w2 ⟨rfl, hb2⟩
  have G2 : Hid (Dec w2 db n 4 P ∧ OnlyDb db w w2) := ⟨by simpa using G.out.1.below hb2, G.out.2.trans (OnlyDb.below hb2)⟩
  clear hb2
  go_wp2
  go_ret
  exact ⟨rfl, G2.out⟩

set_option maxHeartbeats 400000 in
set_option maxRecDepth 100000 in
/-- .. of a payload that is too short for it. -/
theorem uint32_over (db L C : Nat) (A : Option Addr) (w : World) (hL : L < 4)
    (c0 : w.cell? ⟨db, 0, none⟩ = some (.slice A L C)) (c1 : w.cell? ⟨db, 1, none⟩ = some (.bool false)) (f1 : w.frozen? ⟨db, 1, none⟩ = false) :
    Calls Ybaf.prog 14 #[.pointer (some ⟨db, 0, none⟩)] w fun e w' => e = .returned (.int .u32 0) ∧ Short w' db ∧ OnlyDb db w w' := by
  go_enter Ybaf.func14, Ybaf.ntmps14
  go_wp2_with fail
  refine (bytes_over db L C A _ w (by omega) c0 c1 f1).mono ?_
  rintro e w1 ⟨rfl, hw1⟩
  have G : Hid (Short w1 db ∧ OnlyDb db w w1) := by
    rw [hw1]
    exact ⟨⟨World.cell?_setCell_same w ⟨db, 1, none⟩ _ c1, by simp [f1]⟩, OnlyDb.set _ _ _ _⟩
  clear hw1 c0 c1 f1
  go_wp2
  go_ret
  exact ⟨rfl, G.out⟩

/-! ### The announcement's layout, in plain words -/
/-- Where the reader stands behind i of the three strings; none: the payload was too short. -/
def skip (P : Nat → Nat) (n : Nat) : Nat → Option Nat
  | 0 => if 4 ≤ n then some 4 else none
  | i + 1 => match skip P n i with
    | none => none
    | some pos => if pos < n ∧ pos + 1 + P pos ≤ n then some (pos + 1 + P pos) else none
def whole (P : Nat → Nat) (n : Nat) : Bool := match skip P n 3 with
  | none => false
  | some pos => decide (pos + 10 ≤ n)

def DS (w : World) (db n : Nat) (P : Nat → Nat) : Option Nat → Prop
  | none => Short w db
  | some pos => Dec w db n pos P
end Go.Proofs.YbulkcwemFmt
