import Derived.Lib.Bytealg
namespace Go.Proofs.Ybulkcwbu

/-! ### The order -/

/-- strings.Compare -/
def kc (a b : ByteArray) : Int := Lib.compareBytes a.data.toList b.data.toList
/-- cmp.Compare at int -/
def ic (x y : Int) : Int := if x < y then -1 else if y < x then 1 else 0
/-- cmp.Or of two -/
def oc (x y : Int) : Int := if x = 0 then y else x
/-- The order of the heap, of two readers' numbers. -/
def lessB (K : Nat → ByteArray) (A : Nat → Int) (a b : Nat) : Bool := decide (oc (kc (K a) (K b)) (ic (A a) (A b)) < 0)

theorem cb_anti : ∀ a b : List UInt8, Lib.compareBytes b a = - Lib.compareBytes a b
  | [], [] => rfl
  | [], _ :: _ => rfl
  | _ :: _, [] => rfl
  | x :: a, y :: b => by
    have ih := cb_anti a b
    have e1 : (x < y) ↔ x.toNat < y.toNat := UInt8.lt_iff_toNat_lt
    have e2 : (y < x) ↔ y.toNat < x.toNat := UInt8.lt_iff_toNat_lt
    unfold Lib.compareBytes
    by_cases h1 : x < y
    · have h2 : ¬ y < x := by rw [e2]; have := e1.1 h1; omega
      simp [h1, h2]
    · by_cases h2 : y < x
      · simp [h1, h2]
      · simp [h1, h2, ih]

theorem cb_trans : ∀ a b c : List UInt8, Lib.compareBytes a b ≤ 0 → Lib.compareBytes b c ≤ 0 → Lib.compareBytes a c ≤ 0 ∧ (Lib.compareBytes a c = 0 → Lib.compareBytes a b = 0 ∧ Lib.compareBytes b c = 0)
  | [], [], [] => by simp [Lib.compareBytes]
  | [], [], _ :: _ => by simp [Lib.compareBytes]
  | [], _ :: _, [] => by simp [Lib.compareBytes]
  | [], _ :: _, _ :: _ => by simp [Lib.compareBytes]
  | _ :: _, [], _ => by simp [Lib.compareBytes]
  | _ :: _, _ :: _, [] => by simp [Lib.compareBytes]
  | x :: a, y :: b, z :: c => by
    intro h1 h2
    have ih := cb_trans a b c
    have t : ∀ u v : UInt8, (u < v) ↔ u.toNat < v.toNat := fun _ _ => UInt8.lt_iff_toNat_lt
    have p1 : x.toNat < y.toNat ∨ (x.toNat = y.toNat ∧ Lib.compareBytes a b ≤ 0 ∧ Lib.compareBytes (x :: a) (y :: b) = Lib.compareBytes a b) := by
      have e : Lib.compareBytes (x :: a) (y :: b) = if x < y then -1 else if y < x then 1 else Lib.compareBytes a b := by rw [Lib.compareBytes]
      by_cases c1 : x < y
      · exact .inl ((t _ _).1 c1)
      · by_cases c2 : y < x
        · rw [e, if_neg c1, if_pos c2] at h1; omega
        · rw [e, if_neg c1, if_neg c2] at h1
          rw [if_neg c1, if_neg c2] at e
          rw [t] at c1 c2
          exact .inr ⟨by omega, h1, e⟩
    have p2 : y.toNat < z.toNat ∨ (y.toNat = z.toNat ∧ Lib.compareBytes b c ≤ 0 ∧ Lib.compareBytes (y :: b) (z :: c) = Lib.compareBytes b c) := by
      have e : Lib.compareBytes (y :: b) (z :: c) = if y < z then -1 else if z < y then 1 else Lib.compareBytes b c := by rw [Lib.compareBytes]
      by_cases c1 : y < z
      · exact .inl ((t _ _).1 c1)
      · by_cases c2 : z < y
        · rw [e, if_neg c1, if_pos c2] at h2; omega
        · rw [e, if_neg c1, if_neg c2] at h2
          rw [if_neg c1, if_neg c2] at e
          rw [t] at c1 c2
          exact .inr ⟨by omega, h2, e⟩
    by_cases hlt : x.toNat < z.toNat
    · have e : Lib.compareBytes (x :: a) (z :: c) = -1 := by unfold Lib.compareBytes; rw [if_pos ((t _ _).2 hlt)]
      rw [e]
      exact ⟨by omega, fun h => by omega⟩
    · rcases p1 with p1 | ⟨p1, q1, r1⟩ <;> rcases p2 with p2 | ⟨p2, q2, r2⟩ <;> try omega
      have e : Lib.compareBytes (x :: a) (z :: c) = Lib.compareBytes a c := by
        rw [Lib.compareBytes, if_neg (by rw [t]; omega), if_neg (by rw [t]; omega)]
      rw [e, r1, r2]
      exact ih q1 q2

/-- The three-way order of two readers. -/
def rc (K : Nat → ByteArray) (A : Nat → Int) (a b : Nat) : Int := oc (kc (K a) (K b)) (ic (A a) (A b))

theorem rc_anti (K : Nat → ByteArray) (A : Nat → Int) (a b : Nat) : rc K A b a = - rc K A a b := by
  unfold rc oc kc ic
  rw [cb_anti]
  generalize Lib.compareBytes (K a).data.toList (K b).data.toList = u
  by_cases h : u = 0
  · rw [if_pos (by omega), if_pos h]
    repeat' split
    all_goals omega
  · rw [if_neg (by omega), if_neg h]

theorem rc_trans {K : Nat → ByteArray} {A : Nat → Int} {a b c : Nat} (h1 : rc K A a b ≤ 0) (h2 : rc K A b c ≤ 0) : rc K A a c ≤ 0 := by
  have ht := cb_trans (K a).data.toList (K b).data.toList (K c).data.toList
  unfold rc oc kc ic at *
  generalize Lib.compareBytes (K a).data.toList (K b).data.toList = u at *
  generalize Lib.compareBytes (K b).data.toList (K c).data.toList = v at *
  generalize Lib.compareBytes (K a).data.toList (K c).data.toList = x at *
  have hu : u ≤ 0 := by
    by_cases e : u = 0
    · omega
    · rw [if_neg e] at h1; exact h1
  have hv : v ≤ 0 := by
    by_cases e : v = 0
    · omega
    · rw [if_neg e] at h2; exact h2
  obtain ⟨hx, hz⟩ := ht hu hv
  by_cases e : x = 0
  · obtain ⟨e1, e2⟩ := hz e
    rw [if_pos e1] at h1
    rw [if_pos e2] at h2
    rw [if_pos e]
    repeat' split
    all_goals (repeat' split at h1)
    all_goals (repeat' split at h2)
    all_goals omega
  · rw [if_neg e]; exact hx

/-- a comes no later than b. -/
def leR (K : Nat → ByteArray) (A : Nat → Int) (a b : Nat) : Prop := rc K A a b ≤ 0

theorem leR_of_not {K : Nat → ByteArray} {A : Nat → Int} {a b : Nat} (h : lessB K A b a = false) : leR K A a b := by
  have h' : ¬ rc K A b a < 0 := of_decide_eq_false h
  have := rc_anti K A a b
  unfold leR; omega
theorem leR_of {K : Nat → ByteArray} {A : Nat → Int} {a b : Nat} (h : lessB K A a b = true) : leR K A a b := by
  have h' : rc K A a b < 0 := of_decide_eq_true h
  unfold leR; omega
theorem leR_trans {K : Nat → ByteArray} {A : Nat → Int} {a b c : Nat} (h1 : leR K A a b) (h2 : leR K A b c) : leR K A a c := rc_trans h1 h2
theorem leR_refl (K : Nat → ByteArray) (A : Nat → Int) (a : Nat) : leR K A a a := by
  have := rc_anti K A a a
  unfold leR; omega
/-- What the law asks of two readers that are handed out one behind the other. -/
theorem leR_end {K : Nat → ByteArray} {A : Nat → Int} {a b : Nat} (h : leR K A a b) : kc (K a) (K b) ≤ 0 ∧ (kc (K a) (K b) = 0 → A a ≤ A b) := by
  unfold leR rc oc ic at h
  by_cases e : kc (K a) (K b) = 0
  · rw [if_pos e] at h
    refine ⟨by omega, fun _ => ?_⟩
    by_cases e2 : A b < A a
    · rw [if_neg (by omega), if_pos e2] at h; omega
    · omega
  · rw [if_neg e] at h
    exact ⟨h, fun h => absurd h e⟩

/-! ### Rearrangements -/

def swp (i j x : Nat) : Nat := if x = i then j else if x = j then i else x

/-- l' is l, its first m places put in another order. -/
def Rr (m : Nat) (l l' : Nat → Nat) : Prop := ∃ σ : Nat → Nat, (∀ x, x < m → σ x < m) ∧ (∀ x, m ≤ x → σ x = x) ∧ (∀ x y, σ x = σ y → x = y) ∧ ∀ x, l' x = l (σ x)

theorem Rr.refl (m : Nat) (l : Nat → Nat) : Rr m l l := ⟨id, fun _ h => h, fun _ _ => rfl, fun _ _ h => h, fun _ => rfl⟩
theorem Rr.trans {m : Nat} {a b c : Nat → Nat} (h : Rr m a b) (k : Rr m b c) : Rr m a c := by
  obtain ⟨s, s1, s2, s3, s4⟩ := h
  obtain ⟨t, t1, t2, t3, t4⟩ := k
  exact ⟨fun x => s (t x), fun x hx => s1 _ (t1 _ hx), fun x hx => by show s (t x) = x; rw [t2 x hx, s2 x hx], fun x y h => t3 _ _ (s3 _ _ h), fun x => by rw [t4, s4]⟩
theorem Rr.mono {m m' : Nat} {a b : Nat → Nat} (h : Rr m a b) (hm : m ≤ m') : Rr m' a b := by
  obtain ⟨s, s1, s2, s3, s4⟩ := h
  refine ⟨s, fun x hx => ?_, fun x hx => s2 x (by omega), s3, s4⟩
  by_cases e : x < m
  · have := s1 x e; omega
  · rw [s2 x (by omega)]; exact hx
theorem Rr.swap {m i j : Nat} (l : Nat → Nat) (hi : i < m) (hj : j < m) : Rr m l (fun x => l (swp i j x)) := by
  refine ⟨swp i j, fun x hx => ?_, fun x hx => ?_, fun x y h => ?_, fun _ => rfl⟩
  · unfold swp; repeat' split
    all_goals omega
  · unfold swp; rw [if_neg (by omega), if_neg (by omega)]
  · unfold swp at h
    (repeat' split at h)
    all_goals omega
theorem Rr.all {m : Nat} {a b : Nat → Nat} (h : Rr m a b) {Q : Nat → Prop} (hq : ∀ x, x < m → Q (a x)) : ∀ x, x < m → Q (b x) := by
  obtain ⟨s, s1, s2, s3, s4⟩ := h
  exact fun x hx => by rw [s4]; exact hq _ (s1 x hx)
theorem Rr.past {m : Nat} {a b : Nat → Nat} (h : Rr m a b) {x : Nat} (hx : m ≤ x) : b x = a x := by
  obtain ⟨s, s1, s2, s3, s4⟩ := h
  rw [s4, s2 x hx]
/-- No number stands at two of the first n places. -/
def Inj (n : Nat) (l : Nat → Nat) : Prop := ∀ x y, x < n → y < n → l x = l y → x = y
theorem Rr.inj {m n : Nat} {a b : Nat → Nat} (h : Rr m a b) (hm : m ≤ n) (hi : Inj n a) : Inj n b := by
  obtain ⟨s, s1, s2, s3, s4⟩ := h.mono hm
  intro x y hx hy e
  rw [s4, s4] at e
  exact s3 _ _ (hi _ _ (s1 x hx) (s1 y hy) e)

/-! ### The heap -/
section
variable {K : Nat → ByteArray} {A : Nat → Int}

def child (c i : Nat) : Prop := c = 2 * i + 1 ∨ c = 2 * i + 2

/-- From place s on, each of the first m is no later than its children. -/
def Hp (K : Nat → ByteArray) (A : Nat → Int) (s m : Nat) (l : Nat → Nat) : Prop := ∀ i, s ≤ i → ∀ c, c < m → child c i → leR K A (l i) (l c)

theorem Hp.min {m : Nat} {l : Nat → Nat} (h : Hp K A 0 m l) : ∀ c, c < m → leR K A (l 0) (l c) := by
  intro c
  induction c using Nat.strongRecOn with
  | _ c ih =>
    intro hc
    by_cases e : c = 0
    · subst e; exact leR_refl _ _ _
    · exact leR_trans (ih ((c - 1) / 2) (by omega) (by omega)) (h ((c - 1) / 2) (by omega) c hc (by unfold child; omega))

/-- In the midst of 'down': place i alone may be out of order. -/
def DInv (K : Nat → ByteArray) (A : Nat → Int) (s m i : Nat) (l : Nat → Nat) : Prop :=
  s ≤ i ∧ (∀ x, s ≤ x → x ≠ i → ∀ c, c < m → child c x → leR K A (l x) (l c)) ∧ (∀ p, s ≤ p → child i p → ∀ c, c < m → child c i → leR K A (l p) (l c))

theorem DInv.start {s m : Nat} {l : Nat → Nat} (h : Hp K A (s + 1) m l) : DInv K A s m s l :=
  ⟨Nat.le_refl _, fun x h1 h2 c hc hx => h x (by omega) c hc hx, fun p hp hc => by unfold child at hc; omega⟩

theorem DInv.leaf {s m i : Nat} {l : Nat → Nat} (h : DInv K A s m i l) (hm : m ≤ 2 * i + 1) : Hp K A s m l := by
  intro x hx c hc hch
  by_cases e : x = i
  · subst e; unfold child at hch; omega
  · exact h.2.1 x hx e c hc hch

/-- j is the child of i that comes first. -/
def First (K : Nat → ByteArray) (A : Nat → Int) (m i j : Nat) (l : Nat → Nat) : Prop := j < m ∧ child j i ∧ ∀ c, c < m → child c i → leR K A (l j) (l c)

theorem DInv.stop {s m i j : Nat} {l : Nat → Nat} (h : DInv K A s m i l) (hj : First K A m i j l) (hle : leR K A (l i) (l j)) : Hp K A s m l := by
  intro x hx c hc hch
  by_cases e : x = i
  · subst e; exact leR_trans hle (hj.2.2 c hc hch)
  · exact h.2.1 x hx e c hc hch

theorem DInv.step {s m i j : Nat} {l : Nat → Nat} (h : DInv K A s m i l) (hj : First K A m i j l) (hle : leR K A (l j) (l i)) : DInv K A s m j (fun x => l (swp i j x)) := by
  obtain ⟨h1, h2, h3⟩ := h
  obtain ⟨j1, j2, j3⟩ := hj
  have hij : i < j := by unfold child at j2; omega
  have ei : swp i j i = j := by unfold swp; rw [if_pos rfl]
  have ej : swp i j j = i := by unfold swp; rw [if_neg (by omega), if_pos rfl]
  have eo : ∀ x, x ≠ i → x ≠ j → swp i j x = x := fun x a b => by unfold swp; rw [if_neg a, if_neg b]
  refine ⟨by omega, fun x hx hxj c hc hch => ?_, fun p hp hpc c hc hch => ?_⟩
  · have hcx : x < c := by unfold child at hch; omega
    show leR K A (l (swp i j x)) (l (swp i j c))
    by_cases e : x = i
    · subst e
      rw [ei]
      by_cases e2 : c = j
      · subst e2; rw [ej]; exact hle
      · rw [eo c (by omega) e2]; exact j3 c hc hch
    · rw [eo x e hxj]
      by_cases e2 : c = i
      · subst e2; rw [ei]; exact h3 x hx hch j j1 j2
      · have e3 : c ≠ j := by intro e3; subst e3; unfold child at hch j2; omega
        rw [eo c e2 e3]
        exact h2 x hx e c hc hch
  · have epi : p = i := by unfold child at hpc j2; omega
    subst epi
    have hcj : j < c := by unfold child at hch; omega
    show leR K A (l (swp p j p)) (l (swp p j c))
    rw [ei, eo c (by omega) (by omega)]
    exact h2 j (by omega) (by omega) c hc hch
end
end Go.Proofs.Ybulkcwbu
