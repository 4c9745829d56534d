import Derived.Test.Qxb6601400aRuns
namespace Go.Proofs.Qxb6601400a
open Go.RowKit

theorem rm1_next (z : Nat → Int) (lo j : Nat) (h : lo + 1 ≤ j) : rm1 z lo (j + 1 - lo - 1) = min (rm1 z lo (j - lo - 1)) (z j) := by
  obtain ⟨c, rfl⟩ : ∃ c, j = lo + c + 1 := ⟨j - lo - 1, by omega⟩
  rw [show lo + c + 1 + 1 - lo - 1 = c + 1 from by omega, show lo + c + 1 - lo - 1 = c from by omega, rm1]

theorem pow_and {L n : Nat} (hP : IsPow L n) (hL : L ≤ 262144) : bits .and .i64 (L : Int) ((L : Int) - 1) = 0 := by
  have h1 := hP.pos
  have e1 : (BitVec.ofInt 64 (L : Int)).toNat = L := by rw [BitVec.toNat_ofInt]; omega
  have e2 : (BitVec.ofInt 64 ((L : Int) - 1)).toNat = L - 1 := by rw [BitVec.toNat_ofInt]; omega
  have key : (BitVec.ofInt 64 (L : Int) &&& BitVec.ofInt 64 ((L : Int) - 1)).toNat = 0 := by
    rw [BitVec.toNat_and, e1, e2]
    obtain ⟨h, rfl, _⟩ := hP
    rw [Nat.and_two_pow_sub_one_eq_mod, Nat.mod_self]
  show IntKind.i64.wrap ((BitVec.ofInt 64 (L : Int) &&& BitVec.ofInt 64 ((L : Int) - 1)).toNat : Nat) = 0
  rw [key]; rfl

def BytesQ (w : World) (e : Ending) (w' : World) : Prop := ∃ c, e = .returned (.bool c) ∧ w = w'
set_option maxHeartbeats 400000 in
theorem bytes7 (a : Option Addr) (n cap : Nat) (w : World) (h : n ≤ 9223372036854775807) : Calls Try.prog 7 #[.slice a n cap] w (BytesQ w) := by
  by_cases c1 : n ≤ 1048576
  · go_enter Try.func7, Try.ntmps7
    go_wp2
    go_ret
    exact ⟨true, rfl, rfl⟩
  · go_enter Try.func7, Try.ntmps7
    go_wp2
    go_ret
    exact ⟨false, rfl, rfl⟩

def LawQ (w : World) (e : Ending) (w' : World) : Prop := e = .returned (.bool true) ∧ Below w.heap.size w w'

set_option maxRecDepth 100000 in
set_option maxHeartbeats 4000000 in
theorem law3 (a : Option Addr) (cap : Nat) (xs : List Int) (w : World) (hE : Elems .i64 w a xs) (hn : xs.length ≤ 9223372036854775807) (hnil : a = none → xs = []) :
    Calls Try.prog 3 #[.slice a xs.length cap] w (LawQ w) := by
  have Hnil : Hid (a = none → xs = []) := hnil
  clear hnil
  go_enter Try.func3, Try.ntmps3
  go_wp2_with fail
  refine (bytes7 _ _ _ _ hn).mono ?_
  rintro e w1 ⟨c, rfl, rfl⟩
  cases c
  · go_wp2
    go_ret
    exact ⟨rfl, Below.refl _ _⟩
  · by_cases h1 : xs.length ≤ 131072
    · go_wp2_with fail
      refine (cloneInts _ _ xs _ hE (by omega) Hnil.out).mono ?_
      rintro e w1 ⟨a', cap', rfl, hE1, -, hB1⟩
      clear hE Hnil
      go_wp2_with fail
      refine (zzNewTree _ _ xs _ hE1 h1).mono ?_
      rintro e w2 ⟨L, T, g, rfl, hP, hle, hL, hT, hA, hB2⟩
      have HB : Hid (Below w.heap.size w w2) := hB1.trans (hB2.mono hB1.size)
      have hE2 := hE1.below hB2 (Nat.le_refl _)
      have HP : Hid (IsPow L xs.length) := hP
      have HT : Hid (Tree L (fun i => xs.getD i 0) 0 T) := hT
      have hL1 := hP.pos
      have hand : (bits .and .i64 (L : Int) ((L : Int) - 1) != 0) = false := by rw [pow_and hP hL]; rfl
      have hc0 : w2.cell? ⟨g, 0, none⟩ = some (.int .i64 0) := by rw [hA.cell 0 (by omega), hT.low 0 (by omega)]
      clear hP hT hE1 hB1 hB2
      have hhalf : 1 < L → (L : Int) / 2 < (xs.length : Int) := fun h => by have := HP.out.half h; omega
      have hfin : (((2 * L : Nat) : Int) != 2 * (L : Int)) = false := by simp
      have hge1 : ¬ ((L : Int) < 1) := by omega
      have HH : Hid (1 < L → (L : Int) / 2 < (xs.length : Int)) := hhalf
      clear hhalf
      by_cases hgt : 1 < L
      case pos => have hh := HH.out hgt
                  clear HH
                  go_wp2
                  clear hand hfin hc0
                  go_loop [6] (fun v => ∃ k : Nat, 1 ≤ k ∧ k ≤ 2 * L ∧ v = .int .i64 k) (fun v => 2 * L - (intOf v).toNat)
                  case atStart => exact ⟨1, by omega, by omega, rfl⟩
                  case round =>
                    obtain ⟨k, hk1, hk2, rfl⟩ := hrel
                    by_cases hlt : k < 2 * L
                    · go_wp2
                      go_loop [7] (fun v => ∃ W e : Nat, v = .int .i64 W ∧ 1 ≤ W ∧ k * W < 2 * L ∧ Hid (W = 2 ^ e ∧ (e = 0 ∨ k * 2 ^ (e - 1) < L))) (fun v => 2 * L - (intOf v).toNat)
                      case atStart => exact ⟨1, 0, rfl, by omega, by omega, rfl, .inl rfl⟩
                      case round =>
                        obtain ⟨W, e, rfl, hW1, hW2, hWe⟩ := hrel
                        obtain ⟨P, hPP⟩ : ∃ P : Nat, k * W = P := ⟨_, rfl⟩
                        have hWP : W ≤ P := by rw [← hPP]; exact Nat.le_mul_of_pos_left W (by omega)
                        rw [hPP] at hW2
                        have hPi : (k : Int) * (W : Int) = (P : Int) := by rw [← hPP]; simp
                        have HPP : Hid (k * W = P) := hPP
                        clear hPP
                        by_cases hPL : P < L
                        · go_wp2
                          go_round
                          case rel => exact ⟨W * 2, e + 1, by go_num, by omega, by rw [← Nat.mul_assoc, HPP.out]; omega, by rw [hWe.out.1, Nat.pow_succ], .inr (by rw [Nat.add_sub_cancel, ← hWe.out.1, HPP.out]; exact hPL)⟩
                          case measure => simp [intOf]; omega
                        · have hfit : (k + 1) * W ≤ 2 * L := by rw [hWe.out.1]; exact fits HP.out hk1 hlt hWe.out.2
                          have hPW : P + W ≤ 2 * L := by rw [Nat.add_mul, HPP.out] at hfit; omega
                          have HTk : Hid (T k = rm1 (fun i => xs.getD i 0) (P - L) (W - 1)) := by
                            have h := HT.out.run e k hk1 (by rw [← hWe.out.1, HPP.out]; omega) (by rw [← hWe.out.1]; exact hfit)
                            rw [← hWe.out.1, HPP.out] at h
                            exact h
                          have hck := hA.cell k hlt
                          clear hfit
                          obtain ⟨lo, hlo⟩ : ∃ lo : Nat, (P : Int) - (L : Int) = (lo : Int) := ⟨P - L, by omega⟩
                          have hlo2 : P - L = lo := by omega
                          rw [hlo2] at HTk
                          clear hlo2
                          have hloW : lo + W ≤ L := by omega
                          generalize T k = tk at *
                          go_wp2_with fail
                          refine (zzAt _ _ xs _ _ hE2 (by omega)).mono ?_
                          rintro e w3 ⟨rfl, rfl⟩
                          rw [Int.toNat_natCast]
                          have HZ : Hid (rm1 (fun i => xs.getD i 0) lo 0 = xs.getD lo 0) := rfl
                          generalize xs.getD lo 0 = z0 at *
                          go_wp2
                          go_loop [9, 10] (fun m i => ∃ j : Nat, lo + 1 ≤ j ∧ j ≤ lo + W ∧ i = .int .i64 j ∧ m = .int .i64 (rm1 (fun i => xs.getD i 0) lo (j - lo - 1))) (fun _ i => lo + W - (intOf i).toNat)
                          case atStart => exact ⟨lo + 1, by omega, by omega, by go_num, by rw [show lo + 1 - lo - 1 = 0 from by omega, HZ.out]⟩
                          case round =>
                            obtain ⟨j, hj1, hj2, rfl, rfl⟩ := hrel
                            have HN : Hid (rm1 (fun i => xs.getD i 0) lo (j + 1 - lo - 1) = min (rm1 (fun i => xs.getD i 0) lo (j - lo - 1)) (xs.getD j 0)) := rm1_next _ lo j hj1
                            by_cases hjl : j < lo + W
                            · generalize rm1 (fun i => xs.getD i 0) lo (j - lo - 1) = x at *
                              go_wp2_with fail
                              refine (zzAt _ _ xs _ _ hE2 (by omega)).mono ?_
                              rintro e w3 ⟨rfl, rfl⟩
                              rw [Int.toNat_natCast]
                              generalize xs.getD j 0 = v at *
                              by_cases hvx : v < x
                              · go_wp2
                                go_round
                                case rel => exact ⟨j + 1, by omega, by omega, by go_num, by rw [HN.out]; congr 1; omega⟩
                                case measure => simp [intOf]; omega
                              · go_wp2
                                go_round
                                case rel => exact ⟨j + 1, by omega, by omega, by go_num, by rw [HN.out]; congr 1; omega⟩
                                case measure => simp [intOf]; omega
                            · obtain rfl : j = lo + W := by omega
                              rw [show lo + W - lo - 1 = W - 1 from by omega, ← HTk.out]
                              clear HTk HN
                              go_wp2
                              go_round
                              case rel => exact ⟨k + 1, by omega, by omega, by go_num⟩
                              case measure => simp [intOf]; omega
                    · go_wp2
                      go_ret
                      exact ⟨rfl, HB.out⟩
      case neg => clear HH
                  go_wp2
                  clear hand hfin hc0
                  go_loop [6] (fun v => ∃ k : Nat, 1 ≤ k ∧ k ≤ 2 * L ∧ v = .int .i64 k) (fun v => 2 * L - (intOf v).toNat)
                  case atStart => exact ⟨1, by omega, by omega, rfl⟩
                  case round =>
                    obtain ⟨k, hk1, hk2, rfl⟩ := hrel
                    by_cases hlt : k < 2 * L
                    · go_wp2
                      go_loop [7] (fun v => ∃ W e : Nat, v = .int .i64 W ∧ 1 ≤ W ∧ k * W < 2 * L ∧ Hid (W = 2 ^ e ∧ (e = 0 ∨ k * 2 ^ (e - 1) < L))) (fun v => 2 * L - (intOf v).toNat)
                      case atStart => exact ⟨1, 0, rfl, by omega, by omega, rfl, .inl rfl⟩
                      case round =>
                        obtain ⟨W, e, rfl, hW1, hW2, hWe⟩ := hrel
                        obtain ⟨P, hPP⟩ : ∃ P : Nat, k * W = P := ⟨_, rfl⟩
                        have hWP : W ≤ P := by rw [← hPP]; exact Nat.le_mul_of_pos_left W (by omega)
                        rw [hPP] at hW2
                        have hPi : (k : Int) * (W : Int) = (P : Int) := by rw [← hPP]; simp
                        have HPP : Hid (k * W = P) := hPP
                        clear hPP
                        by_cases hPL : P < L
                        · go_wp2
                          go_round
                          case rel => exact ⟨W * 2, e + 1, by go_num, by omega, by rw [← Nat.mul_assoc, HPP.out]; omega, by rw [hWe.out.1, Nat.pow_succ], .inr (by rw [Nat.add_sub_cancel, ← hWe.out.1, HPP.out]; exact hPL)⟩
                          case measure => simp [intOf]; omega
                        · have hfit : (k + 1) * W ≤ 2 * L := by rw [hWe.out.1]; exact fits HP.out hk1 hlt hWe.out.2
                          have hPW : P + W ≤ 2 * L := by rw [Nat.add_mul, HPP.out] at hfit; omega
                          have HTk : Hid (T k = rm1 (fun i => xs.getD i 0) (P - L) (W - 1)) := by
                            have h := HT.out.run e k hk1 (by rw [← hWe.out.1, HPP.out]; omega) (by rw [← hWe.out.1]; exact hfit)
                            rw [← hWe.out.1, HPP.out] at h
                            exact h
                          have hck := hA.cell k hlt
                          clear hfit
                          obtain ⟨lo, hlo⟩ : ∃ lo : Nat, (P : Int) - (L : Int) = (lo : Int) := ⟨P - L, by omega⟩
                          have hlo2 : P - L = lo := by omega
                          rw [hlo2] at HTk
                          clear hlo2
                          have hloW : lo + W ≤ L := by omega
                          generalize T k = tk at *
                          go_wp2_with fail
                          refine (zzAt _ _ xs _ _ hE2 (by omega)).mono ?_
                          rintro e w3 ⟨rfl, rfl⟩
                          rw [Int.toNat_natCast]
                          have HZ : Hid (rm1 (fun i => xs.getD i 0) lo 0 = xs.getD lo 0) := rfl
                          generalize xs.getD lo 0 = z0 at *
                          go_wp2
                          go_loop [9, 10] (fun m i => ∃ j : Nat, lo + 1 ≤ j ∧ j ≤ lo + W ∧ i = .int .i64 j ∧ m = .int .i64 (rm1 (fun i => xs.getD i 0) lo (j - lo - 1))) (fun _ i => lo + W - (intOf i).toNat)
                          case atStart => exact ⟨lo + 1, by omega, by omega, by go_num, by rw [show lo + 1 - lo - 1 = 0 from by omega, HZ.out]⟩
                          case round =>
                            obtain ⟨j, hj1, hj2, rfl, rfl⟩ := hrel
                            have HN : Hid (rm1 (fun i => xs.getD i 0) lo (j + 1 - lo - 1) = min (rm1 (fun i => xs.getD i 0) lo (j - lo - 1)) (xs.getD j 0)) := rm1_next _ lo j hj1
                            by_cases hjl : j < lo + W
                            · exfalso; omega
                            · obtain rfl : j = lo + W := by omega
                              rw [show lo + W - lo - 1 = W - 1 from by omega, ← HTk.out]
                              clear HTk HN
                              go_wp2
                              go_round
                              case rel => exact ⟨k + 1, by omega, by omega, by go_num⟩
                              case measure => simp [intOf]; omega
                    · go_wp2
                      go_ret
                      exact ⟨rfl, HB.out⟩
    · go_wp2
      go_ret
      exact ⟨rfl, Below.refl _ _⟩
end Go.Proofs.Qxb6601400a
