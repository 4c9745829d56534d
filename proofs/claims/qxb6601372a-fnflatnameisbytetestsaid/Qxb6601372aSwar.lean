/-
  PLAIN ARITHMETIC: eight bytes tested at once. No Go here.
-/
import Derived.Laws.BitsAllLaws
namespace Go.Proofs.Qxb6601372a

def ones : Nat → Nat
  | 0 => 0
  | k + 1 => 1 + 256 * ones k
theorem ones_eq : ∀ k, 255 * ones k + 1 = 256 ^ k
  | 0 => rfl
  | k + 1 => by have := ones_eq k; rw [ones, Nat.pow_succ]; omega

def off (b : Nat) : Prop := b < 33 ∨ 126 < b ∨ b = 47
def offB (b : Nat) : Bool := b < 33 || 126 < b || b == 47
theorem offB_iff (b : Nat) : offB b = true ↔ off b := by simp [offB, off, or_assoc]

/-- The mark of byte j in a word of k bytes. -/
def bad (k j v : Nat) : Bool :=
  ((v + 256 ^ k - 33 * ones k).testBit (8 * j + 7) && !v.testBit (8 * j + 7)) || ((v + ones k).testBit (8 * j + 7) || v.testBit (8 * j + 7)) ||
    (((v ^^^ (47 * ones k)) + 256 ^ k - ones k).testBit (8 * j + 7) && !(v ^^^ (47 * ones k)).testBit (8 * j + 7))

theorem bit_zero (N : Nat) : N.testBit (8 * 0 + 7) = decide (N / 128 % 2 = 1) := by
  rw [Nat.testBit_eq_decide_div_mod_eq]
theorem bit_succ (N j : Nat) : N.testBit (8 * (j + 1) + 7) = (N / 256).testBit (8 * j + 7) := by
  rw [show N / 256 = N / 2 ^ 8 from rfl, Nat.testBit_div_two_pow, show 8 * j + 7 + 8 = 8 * (j + 1) + 7 from by omega]
theorem xor_split (b c r s : Nat) (hb : b < 256) (hc : c < 256) : (b + 256 * r) ^^^ (c + 256 * s) = (b ^^^ c) + 256 * (r ^^^ s) := by
  have h1 : ((b + 256 * r) ^^^ (c + 256 * s)) % 2 ^ 8 = (b ^^^ c) := by
    rw [Nat.xor_mod_two_pow, show (b + 256 * r) % 2 ^ 8 = b from by omega, show (c + 256 * s) % 2 ^ 8 = c from by omega]
  have h2 : ((b + 256 * r) ^^^ (c + 256 * s)) / 2 ^ 8 = (r ^^^ s) := by
    rw [Nat.xor_div_two_pow, show (b + 256 * r) / 2 ^ 8 = r from by omega, show (c + 256 * s) / 2 ^ 8 = s from by omega]
  omega
theorem xor47 : ∀ b, b < 256 → (b ^^^ 47) < 256 ∧ ((b ^^^ 47) = 0 ↔ b = 47) ∧ (b < 128 → (b ^^^ 47) < 128) := by decide +kernel

theorem bad_succ (k b r : Nat) (hb : b < 256) (hg : ¬ off b) (j : Nat) : bad (k + 1) (j + 1) (b + 256 * r) = bad k j r := by
  unfold off at hg
  have ho := ones_eq k
  obtain ⟨x1, x2, x3⟩ := xor47 b hb
  have hx : (b + 256 * r) ^^^ (47 * ones (k + 1)) = (b ^^^ 47) + 256 * (r ^^^ (47 * ones k)) := by
    rw [show 47 * ones (k + 1) = 47 + 256 * (47 * ones k) from by rw [ones]; omega, xor_split _ _ _ _ hb (by omega)]
  unfold bad
  rw [hx]
  generalize (b ^^^ 47) = x at *
  generalize (r ^^^ (47 * ones k)) = y at *
  simp only [bit_succ]
  rw [show (b + 256 * r + 256 ^ (k + 1) - 33 * ones (k + 1)) / 256 = r + 256 ^ k - 33 * ones k from by rw [ones, Nat.pow_succ]; omega,
    show (b + 256 * r) / 256 = r from by omega, show (b + 256 * r + ones (k + 1)) / 256 = r + ones k from by rw [ones]; omega,
    show (x + 256 * y + 256 ^ (k + 1) - ones (k + 1)) / 256 = y + 256 ^ k - ones k from by rw [ones, Nat.pow_succ]; omega,
    show (x + 256 * y) / 256 = y from by omega]

theorem bad_zero (k b r : Nat) (hb : b < 256) : bad (k + 1) 0 (b + 256 * r) = true ↔ off b := by
  unfold off
  have ho := ones_eq k
  obtain ⟨x1, x2, x3⟩ := xor47 b hb
  have hx : (b + 256 * r) ^^^ (47 * ones (k + 1)) = (b ^^^ 47) + 256 * (r ^^^ (47 * ones k)) := by
    rw [show 47 * ones (k + 1) = 47 + 256 * (47 * ones k) from by rw [ones]; omega, xor_split _ _ _ _ hb (by omega)]
  unfold bad
  rw [hx]
  generalize (b ^^^ 47) = x at *
  generalize (r ^^^ (47 * ones k)) = y at *
  simp only [bit_zero, Bool.or_eq_true, Bool.and_eq_true, Bool.not_eq_true', decide_eq_true_eq, decide_eq_false_iff_not]
  rw [ones, Nat.pow_succ]
  generalize 256 ^ k = p at *
  generalize ones k = o at *
  omega

theorem bad_iff : ∀ (k v : Nat), (∃ j, j < k ∧ bad k j v = true) ↔ ∃ j, j < k ∧ off (v / 256 ^ j % 256)
  | 0, v => by constructor <;> (rintro ⟨j, h, _⟩; omega)
  | k + 1, v => by
    have hb : v % 256 < 256 := by omega
    have hv : v = v % 256 + 256 * (v / 256) := by omega
    have h0 := bad_zero k (v % 256) (v / 256) hb
    rw [← hv] at h0
    have ih := bad_iff k (v / 256)
    by_cases c : off (v % 256)
    · exact ⟨fun _ => ⟨0, by omega, by simpa using c⟩, fun _ => ⟨0, by omega, h0.2 c⟩⟩
    · have hs := fun j => bad_succ k (v % 256) (v / 256) hb c j
      rw [← hv] at hs
      have hd : ∀ j, v / 256 ^ (j + 1) = v / 256 / 256 ^ j := fun j => by rw [Nat.pow_succ, Nat.mul_comm, Nat.div_div_eq_div_mul]
      constructor
      · rintro ⟨j, hj, hbd⟩
        cases j with
        | zero => exact absurd (h0.1 hbd) c
        | succ j =>
          rw [hs] at hbd
          obtain ⟨q, hq, ho⟩ := ih.1 ⟨j, by omega, hbd⟩
          exact ⟨q + 1, by omega, by rw [hd]; exact ho⟩
      · rintro ⟨j, hj, ho⟩
        cases j with
        | zero => exact absurd (by simpa using ho) c
        | succ j =>
          rw [hd] at ho
          obtain ⟨q, hq, hbd⟩ := ih.2 ⟨j, by omega, ho⟩
          exact ⟨q + 1, by omega, by rw [hs]; exact hbd⟩

/-- The Go function's own reckoning, on natural numbers. -/
def offW (v : Nat) : Bool :=
  ((((v + 16059518370053021407) % 18446744073709551616 &&& (18446744073709551615 - v)) ||| ((v + 72340172838076673) % 18446744073709551616 ||| v) |||
    (((v ^^^ 3399988123389603631) + 18374403900871474943) % 18446744073709551616 &&& (18446744073709551615 - (v ^^^ 3399988123389603631)))) &&& 9259542123273814144) != 0

theorem tops_bit : ∀ i, i < 64 → Nat.testBit 9259542123273814144 i = decide (i % 8 = 7) := by decide
theorem and_tops (N : Nat) : (N &&& 9259542123273814144) ≠ 0 ↔ ∃ j, j < 8 ∧ N.testBit (8 * j + 7) = true := by
  constructor
  · intro h
    apply Classical.byContradiction
    intro hno
    apply h
    apply Nat.eq_of_testBit_eq
    intro i
    rw [Nat.testBit_and, Nat.zero_testBit]
    by_cases hi : i < 64
    · rw [tops_bit i hi]
      by_cases c : i % 8 = 7
      · cases hN : N.testBit i
        · simp
        · exact absurd ⟨i / 8, by omega, by rw [show 8 * (i / 8) + 7 = i from by omega]; exact hN⟩ hno
      · simp [c]
    · rw [Nat.testBit_lt_two_pow (x := 9259542123273814144) (i := i) (Nat.lt_of_lt_of_le (by decide : 9259542123273814144 < 2 ^ 64) (Nat.pow_le_pow_right (by omega) (by omega)))]
      simp
  · rintro ⟨j, hj, hN⟩ h
    have := congrArg (fun x => Nat.testBit x (8 * j + 7)) h
    simp only [Nat.testBit_and, Nat.zero_testBit, hN, Bool.true_and] at this
    rw [tops_bit _ (by omega)] at this
    have h7 : (8 * j + 7) % 8 = 7 := by omega
    rw [h7] at this
    cases this
theorem offW_iff (v : Nat) (hv : v < 18446744073709551616) : offW v = true ↔ ∃ j, j < 8 ∧ off (v / 256 ^ j % 256) := by
  rw [← bad_iff 8 v]
  unfold offW
  rw [bne_iff_ne, and_tops]
  refine exists_congr fun j => and_congr_right fun hj => ?_
  unfold bad
  have e1 : ones 8 = 72340172838076673 := rfl
  have e2 : 256 ^ 8 = 18446744073709551616 := rfl
  have hx : (v ^^^ 3399988123389603631) < 2 ^ 64 := Nat.xor_lt_two_pow hv (by decide)
  have hm : ∀ n, (n % 18446744073709551616).testBit (8 * j + 7) = n.testBit (8 * j + 7) := fun n => by
    rw [show (18446744073709551616 : Nat) = 2 ^ 64 from rfl, Nat.testBit_mod_two_pow]
    simp; omega
  have hs : ∀ n, n < 2 ^ 64 → (18446744073709551615 - n).testBit (8 * j + 7) = !n.testBit (8 * j + 7) := fun n hn => by
    rw [show 18446744073709551615 - n = 2 ^ 64 - (n + 1) from by omega, Nat.testBit_two_pow_sub_succ hn]
    simp; omega
  rw [e1, e2]
  simp only [Nat.testBit_or, Nat.testBit_and, hm]
  rw [hs v hv, hs _ hx]
  rw [show v + 18446744073709551616 - 33 * 72340172838076673 = v + 16059518370053021407 from by omega,
    show (v ^^^ 47 * 72340172838076673) = v ^^^ 3399988123389603631 from rfl,
    show (v ^^^ 3399988123389603631) + 18446744073709551616 - 72340172838076673 = (v ^^^ 3399988123389603631) + 18374403900871474943 from by omega]

end Go.Proofs.Qxb6601372a
