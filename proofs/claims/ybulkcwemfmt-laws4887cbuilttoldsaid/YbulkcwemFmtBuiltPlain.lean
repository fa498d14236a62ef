import Derived.Test.YbulkcwemFmtLawModel
import Derived.Laws.BitsAllLaws
namespace Go.Proofs.YbulkcwemFmt
open Go.RowKit Go.Deep

/-! ### The built announcement, in plain words -/
def strB (s : ByteArray) : List Nat := s.data.toList.map (·.toNat)
def part (s : ByteArray) : List Nat := s.size :: strB s
def idB (id : Nat) : List Nat := [id % 256, id / 256 % 256, id / 65536 % 256, id / 16777216]
def row (L : List Nat) : List Value := L.map fun (x : Nat) => Value.int .u8 (x : Int)
def clip (s : ByteArray) : ByteArray := if 255 < s.size then s.extract 0 255 else s
def parts (S : Nat → ByteArray) : Nat → List Nat
  | 0 => []
  | i + 1 => parts S i ++ part (clip (S i))

theorem strB_length (s : ByteArray) : (strB s).length = s.size := by unfold strB; rw [List.length_map, Array.length_toList]; rfl
theorem strB_lt (s : ByteArray) : ∀ x ∈ strB s, x < 256 := fun x hx => by
  obtain ⟨b, _, rfl⟩ := List.mem_map.1 hx
  exact b.toNat_lt
theorem clip_size (s : ByteArray) : (clip s).size ≤ 255 := by
  unfold clip
  split
  · simp [ByteArray.size_extract]; omega
  · omega
theorem part_length (s : ByteArray) : (part s).length = s.size + 1 := by simp [part, strB_length]
theorem row_append (a b : List Nat) : row (a ++ b) = row a ++ row b := by simp [row]
theorem row_length (a : List Nat) : (row a).length = a.length := by simp [row]
theorem row_one (a : List Nat) : ∀ u ∈ row a, u.oneCell' = true := fun u hu => by
  obtain ⟨x, _, rfl⟩ := List.mem_map.1 hu
  rfl
theorem row_get {a : List Nat} {j : Nat} {u : Value} (h : (row a)[j]? = some u) : j < a.length ∧ u = .int .u8 (a.getD j 0 : Nat) := by
  unfold row at h
  rw [List.getElem?_map, Option.map_eq_some_iff] at h
  obtain ⟨x, hx, rfl⟩ := h
  obtain ⟨hj, e⟩ := List.getElem?_eq_some_iff.1 hx
  exact ⟨hj, by rw [List.getD_eq_getElem?_getD, hx]; rfl⟩
theorem parts_length_le (S : Nat → ByteArray) : ∀ i, (parts S i).length ≤ 256 * i
  | 0 => by simp [parts]
  | i + 1 => by
    have := parts_length_le S i
    have := clip_size (S i)
    simp [parts, part_length]; omega

/-! ### the id -/
theorem or_mul (a b i m : Nat) (hm : m = 2 ^ i) (h : a < m) : a ||| (b * m) = b * m + a := by
  subst hm
  rw [Nat.or_comm, ← Nat.shiftLeft_eq, Nat.shiftLeft_add_eq_or_of_lt h]
theorem le32_sum (P : Nat → Nat) (h : ∀ j, j < 4 → P j < 256) : le32 P = ((P 0 + P 1 * 256 + P 2 * 65536 + P 3 * 16777216 : Nat) : Int) := by
  have h0 := h 0 (by omega)
  have h1 := h 1 (by omega)
  have h2 := h 2 (by omega)
  have h3 := h 3 (by omega)
  unfold le32
  generalize P 0 = n3 at *
  generalize P 1 = n2 at *
  generalize P 2 = n1 at *
  generalize P 3 = n0 at *
  have e2 : ((n2 : Int) * 256) = ((n2 * 256 : Nat) : Int) := by omega
  have e1 : ((n1 : Int) * 65536) = ((n1 * 65536 : Nat) : Int) := by omega
  have e0 : ((n0 : Int) * 16777216) = ((n0 * 16777216 : Nat) : Int) := by omega
  rw [e2, e1, e0, u32_or_nat n3 (n2 * 256) (by omega) (by omega), or_mul n3 n2 8 256 (by decide) (by omega), u32_or_nat _ (n1 * 65536) (by omega) (by omega), or_mul _ n1 16 65536 (by decide) (by omega), u32_or_nat _ (n0 * 16777216) (by omega) (by omega), or_mul _ n0 24 16777216 (by decide) (by omega)]
  omega

/-! ### the layout -/
theorem whole_iff (P : Nat → Nat) (n l0 l1 l2 : Nat) (h0 : P 4 = l0) (h1 : P (5 + l0) = l1) (h2 : P (6 + l0 + l1) = l2) : whole P n = decide (17 + l0 + l1 + l2 ≤ n) := by
  unfold whole
  by_cases a : 17 + l0 + l1 + l2 ≤ n
  · have e0 : skip P n 0 = some 4 := if_pos (by omega)
    have e1 : skip P n 1 = some (5 + l0) := by
      show (match skip P n 0 with | none => none | some pos => if pos < n ∧ pos + 1 + P pos ≤ n then some (pos + 1 + P pos) else none) = _
      rw [e0]; simp only [h0]; rw [if_pos (by omega)]
    have e2 : skip P n 2 = some (6 + l0 + l1) := by
      show (match skip P n 1 with | none => none | some pos => if pos < n ∧ pos + 1 + P pos ≤ n then some (pos + 1 + P pos) else none) = _
      rw [e1]; simp only [h1]; rw [if_pos (by omega)]; congr 1; omega
    have e3 : skip P n 3 = some (7 + l0 + l1 + l2) := by
      show (match skip P n 2 with | none => none | some pos => if pos < n ∧ pos + 1 + P pos ≤ n then some (pos + 1 + P pos) else none) = _
      rw [e2]; simp only [h2]; rw [if_pos (by omega)]; congr 1; omega
    rw [e3]
    simp only [decide_eq_decide]
    omega
  · rw [decide_eq_false a]
    by_cases b0 : 4 ≤ n
    · have e0 : skip P n 0 = some 4 := if_pos b0
      by_cases b1 : 4 < n ∧ 5 + l0 ≤ n
      · have e1 : skip P n 1 = some (5 + l0) := by
          show (match skip P n 0 with | none => none | some pos => if pos < n ∧ pos + 1 + P pos ≤ n then some (pos + 1 + P pos) else none) = _
          rw [e0]; simp only [h0]; rw [if_pos (by omega)]
        by_cases b2 : 5 + l0 < n ∧ 6 + l0 + l1 ≤ n
        · have e2 : skip P n 2 = some (6 + l0 + l1) := by
            show (match skip P n 1 with | none => none | some pos => if pos < n ∧ pos + 1 + P pos ≤ n then some (pos + 1 + P pos) else none) = _
            rw [e1]; simp only [h1]; rw [if_pos (by omega)]; congr 1; omega
          by_cases b3 : 6 + l0 + l1 < n ∧ 7 + l0 + l1 + l2 ≤ n
          · have e3 : skip P n 3 = some (7 + l0 + l1 + l2) := by
              show (match skip P n 2 with | none => none | some pos => if pos < n ∧ pos + 1 + P pos ≤ n then some (pos + 1 + P pos) else none) = _
              rw [e2]; simp only [h2]; rw [if_pos (by omega)]; congr 1; omega
            rw [e3]
            simp only [decide_eq_false_iff_not]
            omega
          · have e3 : skip P n 3 = none := by
              show (match skip P n 2 with | none => none | some pos => if pos < n ∧ pos + 1 + P pos ≤ n then some (pos + 1 + P pos) else none) = _
              rw [e2]; simp only [h2]; rw [if_neg (by omega)]
            rw [e3]
        · have e2 : skip P n 2 = none := by
            show (match skip P n 1 with | none => none | some pos => if pos < n ∧ pos + 1 + P pos ≤ n then some (pos + 1 + P pos) else none) = _
            rw [e1]; simp only [h1]; rw [if_neg (by omega)]
          have e3 : skip P n 3 = none := by
            show (match skip P n 2 with | none => none | some pos => if pos < n ∧ pos + 1 + P pos ≤ n then some (pos + 1 + P pos) else none) = _
            rw [e2]
          rw [e3]
      · have e1 : skip P n 1 = none := by
          show (match skip P n 0 with | none => none | some pos => if pos < n ∧ pos + 1 + P pos ≤ n then some (pos + 1 + P pos) else none) = _
          rw [e0]; simp only [h0]; rw [if_neg (by omega)]
        have e2 : skip P n 2 = none := by
          show (match skip P n 1 with | none => none | some pos => if pos < n ∧ pos + 1 + P pos ≤ n then some (pos + 1 + P pos) else none) = _
          rw [e1]
        have e3 : skip P n 3 = none := by
          show (match skip P n 2 with | none => none | some pos => if pos < n ∧ pos + 1 + P pos ≤ n then some (pos + 1 + P pos) else none) = _
          rw [e2]
        rw [e3]
    · have e0 : skip P n 0 = none := if_neg b0
      have e1 : skip P n 1 = none := by
        show (match skip P n 0 with | none => none | some pos => if pos < n ∧ pos + 1 + P pos ≤ n then some (pos + 1 + P pos) else none) = _
        rw [e0]
      have e2 : skip P n 2 = none := by
        show (match skip P n 1 with | none => none | some pos => if pos < n ∧ pos + 1 + P pos ≤ n then some (pos + 1 + P pos) else none) = _
        rw [e1]
      have e3 : skip P n 3 = none := by
        show (match skip P n 2 with | none => none | some pos => if pos < n ∧ pos + 1 + P pos ≤ n then some (pos + 1 + P pos) else none) = _
        rw [e2]
      rw [e3]

theorem getD_at (A B : List Nat) (x k : Nat) (h : k = A.length) : (A ++ x :: B).getD k 0 = x := by
  subst h
  rw [List.getD_eq_getElem?_getD, List.getElem?_append_right (Nat.le_refl _)]
  simp
theorem parts3 (S : Nat → ByteArray) : parts S 3 = part (clip (S 0)) ++ part (clip (S 1)) ++ part (clip (S 2)) := by simp [parts]
def builtP (id : Nat) (S : Nat → ByteArray) (TL X : List Nat) (j : Nat) : Nat := (idB id ++ parts S 3 ++ TL ++ X).getD j 0
theorem built_len (id : Nat) (S : Nat → ByteArray) : (idB id ++ parts S 3).length = 7 + (clip (S 0)).size + (clip (S 1)).size + (clip (S 2)).size := by
  rw [parts3]
  simp only [List.length_append, part_length, idB, List.length_cons, List.length_nil]
  omega
theorem built_whole (id : Nat) (S : Nat → ByteArray) (TL X : List Nat) (k : Nat) : whole (builtP id S TL X) k = decide ((idB id ++ parts S 3).length + 10 ≤ k) := by
  rw [built_len]
  have e : ∀ j, builtP id S TL X j = (idB id ++ ((clip (S 0)).size :: strB (clip (S 0)) ++ ((clip (S 1)).size :: strB (clip (S 1)) ++ ((clip (S 2)).size :: strB (clip (S 2)) ++ TL ++ X)))).getD j 0 := fun j => by
    unfold builtP
    rw [parts3]
    simp only [part, List.append_assoc, List.cons_append]
  rw [whole_iff (builtP id S TL X) k (clip (S 0)).size (clip (S 1)).size (clip (S 2)).size]
  · simp only [decide_eq_decide]; omega
  · rw [e]; exact getD_at (idB id) _ _ _ rfl
  · rw [e]
    have := getD_at (idB id ++ (clip (S 0)).size :: strB (clip (S 0))) (strB (clip (S 1)) ++ ((clip (S 2)).size :: strB (clip (S 2)) ++ TL ++ X)) (clip (S 1)).size (5 + (clip (S 0)).size) (by simp only [List.length_append, List.length_cons, strB_length, idB, List.length_nil]; omega)
    simpa only [List.append_assoc, List.cons_append] using this
  · rw [e]
    have := getD_at (idB id ++ ((clip (S 0)).size :: strB (clip (S 0)) ++ (clip (S 1)).size :: strB (clip (S 1)))) (strB (clip (S 2)) ++ TL ++ X) (clip (S 2)).size (6 + (clip (S 0)).size + (clip (S 1)).size) (by simp only [List.length_append, List.length_cons, strB_length, idB, List.length_nil]; omega)
    simpa only [List.append_assoc, List.cons_append] using this
theorem built_id (id : Nat) (hid : id < 4294967296) (S : Nat → ByteArray) (TL X : List Nat) : le32 (builtP id S TL X) = (id : Int) := by
  have e : ∀ j, builtP id S TL X j = (id % 256 :: id / 256 % 256 :: id / 65536 % 256 :: id / 16777216 :: (parts S 3 ++ TL ++ X)).getD j 0 := fun j => by
    unfold builtP
    simp only [idB, List.append_assoc, List.cons_append, List.nil_append]
  have e0 := e 0
  have e1 := e 1
  have e2 := e 2
  have e3 := e 3
  simp only [List.getD_cons_zero, List.getD_cons_succ] at e0 e1 e2 e3
  rw [le32_sum _ (fun j hj => by match j, hj with | 0, _ => omega | 1, _ => omega | 2, _ => omega | 3, _ => omega), e0, e1, e2, e3]
  omega
theorem built_lt (id : Nat) (hid : id < 4294967296) (S : Nat → ByteArray) (TL X : List Nat) (hT : ∀ x ∈ TL, x < 256) (hX : ∀ x ∈ X, x < 256) : ∀ x ∈ idB id ++ parts S 3 ++ TL ++ X, x < 256 := by
  have hp : ∀ i, ∀ x ∈ parts S i, x < 256 := fun i => by
    induction i with
    | zero => intro x hx; cases hx
    | succ i ih =>
      intro x hx
      rcases List.mem_append.1 hx with h | h
      · exact ih x h
      · rcases List.mem_cons.1 h with rfl | h
        · have := clip_size (S i); omega
        · exact strB_lt _ x h
  intro x hx
  simp only [List.mem_append] at hx
  rcases hx with ((h | h) | h) | h
  · simp only [idB, List.mem_cons, List.not_mem_nil, or_false] at h
    omega
  · exact hp 3 x h
  · exact hT x h
  · exact hX x h

theorem bytes_of_own {w : World} {base g N cap : Nat} {L : List Nat} (h : w.ownsRow base 5 1 (.slice (some ⟨g, 0, none⟩) N cap) N (row L)) (hL : ∀ x ∈ L, x < 256) : Bytes w (some ⟨g, 0, none⟩) N (fun j => L.getD j 0) := by
  have hlen : L.length = N := by have := h.1; simpa [row_length] using this
  refine ⟨fun j hj => ?_, fun _ => ?_⟩
  · have hj' : j < L.length := by omega
    show L.getD j 0 < 256
    rw [List.getD_eq_getElem?_getD, List.getElem?_eq_getElem hj', Option.getD_some]
    exact hL _ (List.getElem_mem _)
  · rcases h.2 with ⟨e, _⟩ | ⟨g', cap', cur, e, _, hg, _, _, _, ht⟩
    · cases e
    · cases e
      have hlt : g < w.heap.size := by
        rcases Nat.lt_or_ge g w.heap.size with h' | h'
        · exact h'
        · rw [Array.getElem?_eq_none h'] at hg; cases hg
      refine ⟨g, 0, rfl, hlt, fun j hj => ?_⟩
      have hj' : j < L.length := by omega
      have h1 : (cur.toList.take (N * 1))[j]? = some (.int .u8 (L.getD j 0 : Nat)) := by
        rw [ht]
        unfold row
        rw [List.getElem?_map, List.getElem?_eq_getElem hj', List.getD_eq_getElem?_getD, List.getElem?_eq_getElem hj']
        rfl
      rw [List.getElem?_take_of_lt (by omega)] at h1
      have h2 : cur[j]? = some (.int .u8 (L.getD j 0 : Nat)) := by rw [← h1, Array.getElem?_toList]
      simp [World.cell?, hg, h2]
theorem Bytes.take {w : World} {A : Option Addr} {n k : Nat} {P : Nat → Nat} (h : Bytes w A n P) (hk : k ≤ n) : Bytes w A k P := by
  refine ⟨fun j hj => h.1 j (by omega), fun h0 => ?_⟩
  obtain ⟨b, o, e, hb, hc⟩ := h.2 (by omega)
  exact ⟨b, o, e, hb, fun j hj => hc j (by omega)⟩
end Go.Proofs.YbulkcwemFmt
