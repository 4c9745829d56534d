/-
  PLAIN MATHEMATICS of the tree of least numbers. No Go here.
-/
import Derived.Test.Qxb6601400aBase
namespace Go.Proofs.Qxb6601400a

/-- The least of z lo, .., z (lo + c): c + 1 numbers. -/
def rm1 (z : Nat → Int) (lo : Nat) : Nat → Int
  | 0 => z lo
  | c + 1 => min (rm1 z lo c) (z (lo + c + 1))

theorem rm1_join (z : Nat → Int) (lo a : Nat) : ∀ b, rm1 z lo (a + b + 1) = min (rm1 z lo a) (rm1 z (lo + a + 1) b)
  | 0 => rfl
  | b + 1 => by
    have ih := rm1_join z lo a b
    show min (rm1 z lo (a + b + 1)) (z (lo + (a + b + 1) + 1)) = min (rm1 z lo a) (min (rm1 z (lo + a + 1) b) (z (lo + a + 1 + b + 1)))
    rw [ih, show lo + (a + b + 1) + 1 = lo + a + 1 + b + 1 from by omega]
    omega

theorem rm1_le (z : Nat → Int) (lo : Nat) : ∀ c i, lo ≤ i → i ≤ lo + c → rm1 z lo c ≤ z i
  | 0, i, h1, h2 => by obtain rfl : i = lo := by omega
                       exact Int.le_refl _
  | c + 1, i, h1, h2 => by
    rw [rm1]
    by_cases e : i = lo + c + 1
    · subst e; omega
    · have := rm1_le z lo c i h1 (by omega); omega

/-- L is the least power of two no less than n. -/
def IsPow (L n : Nat) : Prop := ∃ h, L = 2 ^ h ∧ (h = 0 ∨ 2 ^ (h - 1) < n)
theorem IsPow.one (n : Nat) : IsPow 1 n := ⟨0, rfl, .inl rfl⟩
theorem IsPow.dbl {L n : Nat} (h : IsPow L n) (hlt : L < n) : IsPow (L * 2) n := by
  obtain ⟨e, rfl, _⟩ := h
  exact ⟨e + 1, by rw [Nat.pow_succ], .inr (by simpa using hlt)⟩
theorem IsPow.half {L n : Nat} (h : IsPow L n) (h1 : 1 < L) : L / 2 < n := by
  obtain ⟨e, rfl, h | h⟩ := h
  · subst h; simp at h1
  · cases e with
    | zero => simp at h1
    | succ e => rw [Nat.pow_succ, Nat.mul_div_cancel _ (by omega)]; simpa using h
theorem IsPow.pos {L n : Nat} (h : IsPow L n) : 1 ≤ L := by obtain ⟨e, rfl, _⟩ := h; exact Nat.one_le_two_pow

/-- The tree over L leaves that hold z, its nodes above m made. -/
structure Tree (L : Nat) (z : Nat → Int) (m : Nat) (T : Nat → Int) : Prop where
  leaf : ∀ i, i < L → T (L + i) = z i
  node : ∀ j, m < j → j < L → T j = min (T (2 * j)) (T (2 * j + 1))
  low : ∀ j, j ≤ m → T j = 0

theorem Tree.step {L : Nat} {z T : Nat → Int} {m : Nat} (h : Tree L z (m + 1) T) (hm : m + 1 < L) :
    Tree L z m (fun j => if j = m + 1 then min (T (2 * (m + 1))) (T (2 * (m + 1) + 1)) else T j) := by
  refine ⟨fun i hi => ?_, fun j h1 h2 => ?_, fun j hj => ?_⟩
  · show (if L + i = m + 1 then _ else _) = _
    rw [if_neg (by omega)]; exact h.leaf i hi
  · show (if j = m + 1 then _ else _) = min (if 2 * j = m + 1 then _ else _) (if 2 * j + 1 = m + 1 then _ else _)
    rw [if_neg (show ¬ 2 * j = m + 1 by omega), if_neg (show ¬ 2 * j + 1 = m + 1 by omega)]
    by_cases e : j = m + 1
    · subst e; rw [if_pos rfl]
    · rw [if_neg e]; exact h.node j (by omega) h2
  · show (if j = m + 1 then _ else _) = _
    rw [if_neg (by omega)]; exact h.low j (by omega)

/-- A node's number is the least of its run. -/
theorem Tree.run {L : Nat} {z T : Nat → Int} (h : Tree L z 0 T) : ∀ (e k : Nat), 1 ≤ k → L ≤ k * 2 ^ e → (k + 1) * 2 ^ e ≤ 2 * L → T k = rm1 z (k * 2 ^ e - L) (2 ^ e - 1)
  | 0, k, hk, h1, h2 => by
    simp only [Nat.pow_zero, Nat.mul_one] at h1 h2 ⊢
    have := h.leaf (k - L) (by omega)
    rw [show L + (k - L) = k from by omega] at this
    rw [this]; rfl
  | e + 1, k, hk, h1, h2 => by
    have hp : 1 ≤ 2 ^ e := Nat.one_le_two_pow
    have hkk : k * 2 ^ (e + 1) = 2 * k * 2 ^ e := by rw [Nat.pow_succ]; rw [Nat.mul_comm 2 k, Nat.mul_assoc, Nat.mul_comm 2 (2 ^ e)]
    have hk1 : (k + 1) * 2 ^ (e + 1) = 2 * k * 2 ^ e + 2 * 2 ^ e := by rw [Nat.add_mul, hkk, Nat.pow_succ]; omega
    have ha : (2 * k + 1) * 2 ^ e = 2 * k * 2 ^ e + 2 ^ e := by rw [Nat.add_mul]; omega
    have hb : (2 * k + 1 + 1) * 2 ^ e = 2 * k * 2 ^ e + 2 * 2 ^ e := by rw [Nat.add_mul, ha]; omega
    have hkL : k < L := by
      have : (k + 1) * 2 ≤ (k + 1) * 2 ^ (e + 1) := Nat.mul_le_mul_left _ (by rw [Nat.pow_succ]; omega)
      omega
    rw [h.node k (by omega) hkL, Tree.run h e (2 * k) (by omega) (by omega) (by omega), Tree.run h e (2 * k + 1) (by omega) (by omega) (by omega)]
    rw [hkk, ha, Nat.pow_succ]
    rw [show 2 ^ e * 2 - 1 = (2 ^ e - 1) + (2 ^ e - 1) + 1 from by omega, rm1_join]
    rw [show 2 * k * 2 ^ e + 2 ^ e - L = 2 * k * 2 ^ e - L + (2 ^ e - 1) + 1 from by omega]

/-- The run of a node lies among the leaves. -/
theorem fits {L n k e : Nat} (hL : IsPow L n) (hk : 1 ≤ k) (hk2 : k < 2 * L) (hmin : e = 0 ∨ k * 2 ^ (e - 1) < L) : (k + 1) * 2 ^ e ≤ 2 * L := by
  obtain ⟨h, rfl, _⟩ := hL
  rcases hmin with rfl | hmin
  · simp only [Nat.pow_zero, Nat.mul_one]; omega
  · cases e with
    | zero => simp only [Nat.pow_zero, Nat.mul_one]; omega
    | succ e =>
      simp only [Nat.add_sub_cancel] at hmin
      have he : e < h := by
        rcases Nat.lt_or_ge e h with a | a
        · exact a
        · exfalso
          have : 2 ^ h ≤ 2 ^ e := Nat.pow_le_pow_right (by omega) a
          have : 1 * 2 ^ e ≤ k * 2 ^ e := Nat.mul_le_mul_right _ hk
          omega
      obtain ⟨d, rfl⟩ : ∃ d, h = e + d := ⟨h - e, by omega⟩
      rw [Nat.pow_add, Nat.mul_comm (2 ^ e)] at hmin
      have hkd : k < 2 ^ d := Nat.lt_of_mul_lt_mul_right hmin
      have h3 : (k + 1) * 2 ^ (e + 1) ≤ 2 ^ d * 2 ^ (e + 1) := Nat.mul_le_mul_right _ hkd
      have h4 : 2 ^ d * 2 ^ (e + 1) = 2 * 2 ^ (e + d) := by rw [← Nat.pow_add, ← Nat.pow_succ', show d + (e + 1) = e + d + 1 from by omega]
      omega

/-- The least index in a run, from 'f' on and below 't', whose number is below 'bd'; else t. -/
def IsFirst (z : Nat → Int) (lo hi : Nat) (f t bd : Int) (r : Int) : Prop :=
  (r = t ∧ ∀ i : Nat, lo ≤ i → i < hi → f ≤ (i : Int) → (i : Int) < t → bd ≤ z i) ∨
  ∃ q : Nat, r = (q : Int) ∧ lo ≤ q ∧ q < hi ∧ f ≤ (q : Int) ∧ (q : Int) < t ∧ z q < bd ∧ ∀ i : Nat, lo ≤ i → i < q → f ≤ (i : Int) → bd ≤ z i

theorem IsFirst.same {z : Nat → Int} {lo hi : Nat} {f t bd r r' : Int} (h : IsFirst z lo hi f t bd r) (h' : IsFirst z lo hi f t bd r') : r = r' := by
  rcases h with ⟨rfl, h⟩ | ⟨q, rfl, a, b, c, d, e, g⟩
  · rcases h' with ⟨rfl, _⟩ | ⟨q, rfl, a, b, c, d, e, g⟩
    · rfl
    · have := h q a b c d; omega
  · rcases h' with ⟨rfl, h⟩ | ⟨q', rfl, a', b', c', d', e', g'⟩
    · have := h q a b c d; omega
    · rcases Nat.lt_trichotomy q q' with x | x | x
      · have := g' q a x c; omega
      · rw [x]
      · have := g q' a' x c'; omega
theorem IsFirst.left {z : Nat → Int} {lo mid hi : Nat} {f t bd r : Int} (h : IsFirst z lo mid f t bd r) (hm : mid ≤ hi) (hr : r < t) : IsFirst z lo hi f t bd r := by
  rcases h with ⟨rfl, _⟩ | ⟨q, rfl, a, b, c, d, e, g⟩
  · omega
  · exact .inr ⟨q, rfl, a, by omega, c, d, e, g⟩
theorem IsFirst.right {z : Nat → Int} {lo mid hi : Nat} {f t bd r r' : Int} (h : IsFirst z lo mid f t bd r) (hr : ¬ r < t) (hlm : lo ≤ mid) (h' : IsFirst z mid hi f t bd r') : IsFirst z lo hi f t bd r' := by
  have hno : ∀ i : Nat, lo ≤ i → i < mid → f ≤ (i : Int) → (i : Int) < t → bd ≤ z i := by
    rcases h with ⟨rfl, h⟩ | ⟨q, rfl, a, b, c, d, e, g⟩
    · exact h
    · omega
  rcases h' with ⟨rfl, h2⟩ | ⟨q, rfl, a, b, c, d, e, g⟩
  · refine .inl ⟨rfl, fun i h1 h3 h4 h5 => ?_⟩
    by_cases x : i < mid
    · exact hno i h1 x h4 h5
    · exact h2 i (by omega) h3 h4 h5
  · refine .inr ⟨q, rfl, by omega, b, c, d, e, fun i h1 h3 h4 => ?_⟩
    by_cases x : i < mid
    · exact hno i h1 x h4 (by omega)
    · exact g i (by omega) h3 h4

end Go.Proofs.Qxb6601400a
