import Derived.Test.Qxb6601627aSum
namespace Go.Proofs.Qxb6601627a
open Go.RowKit

/-- r is the one's complement fold of s. -/
def IsFold (s r : Int) : Prop := 0 ≤ r ∧ r ≤ 65535 ∧ r % 65535 = s % 65535 ∧ (0 < s → 0 < r) ∧ (s = 0 → r = 0)

theorem and16 (v : Int) (h0 : 0 ≤ v) (h1 : v < 4294967296) : bits .and .u32 v 65535 = v % 65536 := by
  obtain ⟨x, rfl⟩ := Int.eq_ofNat_of_zero_le h0
  have e := u32_and_nat x 65535 (by omega) (by omega)
  simp only [Int.cast_ofNat_Int] at e
  rw [e, nat_mask16]; omega

theorem xor_all (x : Nat) (hx : x < 2 ^ 16) : 65535 ^^^ x = 65535 - x := by
  apply Nat.eq_of_testBit_eq
  intro i
  rw [Nat.testBit_xor, show 65535 - x = 2 ^ 16 - (x + 1) from by omega, Nat.testBit_two_pow_sub_succ hx, show (65535 : Nat) = 2 ^ 16 - 1 from rfl, Nat.testBit_two_pow_sub_one]
  by_cases h : i < 16
  · simp [h]
  · have : x.testBit i = false := Nat.testBit_lt_two_pow (Nat.lt_of_lt_of_le hx (Nat.pow_le_pow_right (by omega) (by omega)))
    simp [h, this]
theorem not16 (v : Int) (h0 : 0 ≤ v) (h1 : v ≤ 65535) : bits .xor .u16 IntKind.u16.max v = 65535 - v := by
  obtain ⟨x, rfl⟩ := Int.eq_ofNat_of_zero_le h0
  have e := u16_xor_nat 65535 x (by omega) (by omega)
  simp only [Int.cast_ofNat_Int] at e
  rw [show IntKind.u16.max = 65535 from rfl, e, xor_all x (by omega)]; omega

def CkQ (s : Int) (w : World) (e : Ending) (w' : World) : Prop := ∃ r, e = .returned (.int .u16 (65535 - r)) ∧ IsFold s r ∧ w = w'

set_option maxHeartbeats 1000000 in
theorem check14 (s : Int) (w : World) (hs : 0 ≤ s ∧ s < 4294967296) : Calls Try.prog 14 #[.int .u32 s] w (CkQ s w) := by
  go_enter Try.func14, Try.ntmps14
  go_wp2
  go_loop [0] (fun sv => ∃ v : Int, sv = .int .u32 v ∧ 0 ≤ v ∧ v < 4294967296 ∧ Hid (v % 65535 = s % 65535 ∧ (0 < s → 0 < v) ∧ (s = 0 → v = 0))) (fun sv => (intOf sv).toNat)
  case atStart => exact ⟨s, rfl, hs.1, hs.2, rfl, fun h => h, fun h => h⟩
  case round =>
    obtain ⟨v, rfl, h0, h1, hv⟩ := hrel
    by_cases hgt : 65535 < v
    · have ha := and16 v h0 h1
      go_wp2
      go_round
      case rel => exact ⟨_, rfl, by omega, by omega, by have := hv.out.1; omega, fun h => by have := hv.out.2.1 h; omega, fun h => by have := hv.out.2.2 h; omega⟩
      case measure => simp [intOf]; omega
    · go_wp2
      go_ret
      exact ⟨v, ret_int (not16 v h0 (by omega)), ⟨h0, by omega, hv.out.1, hv.out.2.1, hv.out.2.2⟩, rfl⟩
theorem zzcheck (s : Int) (w : World) (hs : 0 ≤ s ∧ s < 4294967296) : Calls Try.prog 11 #[.int .u32 s] w (CkQ s w) := by
  go_enter Try.func11, Try.ntmps11
  go_wp2_with fail
  refine (check14 s _ hs).mono ?_
  rintro e w1 ⟨r, rfl, hf, rfl⟩
  have HF : Hid (IsFold s r) := hf
  clear hf
  go_wp2
  go_ret
  exact ⟨r, rfl, HF.out, rfl⟩

/-- The data that are checked: the bytes, then zeros, then the checksum's two bytes. -/
theorem fold_checked (S r r2 : Int) (hS : 0 ≤ S) (h : IsFold S r) (h2 : IsFold (S + (65535 - r)) r2) : r2 = 65535 := by
  obtain ⟨a1, a2, a3, a4, a5⟩ := h
  obtain ⟨b1, b2, b3, b4, b5⟩ := h2
  by_cases h0 : S = 0
  · have := a5 h0; have := b4 (by omega); omega
  · have := a4 (by omega); have := b4 (by omega); omega

set_option maxHeartbeats 400000 in
theorem bytes12 (a : Option Addr) (n cap : Nat) (w : World) (h : n ≤ 9223372036854775807) : Calls Try.prog 12 #[.slice a n cap] w (BytesQ w) := by
  by_cases c1 : n ≤ 1048576
  · go_enter Try.func12, Try.ntmps12
    go_wp2
    go_ret
    exact ⟨true, rfl, rfl⟩
  · go_enter Try.func12, Try.ntmps12
    go_wp2
    go_ret
    exact ⟨false, rfl, rfl⟩
end Go.Proofs.Qxb6601627a
