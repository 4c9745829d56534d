import Derived.Test.Qxb6601400aSearch
namespace Go.Proofs.Qxb6601400a
open Go.RowKit

set_option maxHeartbeats 400000 in
theorem bytes11 (a : Option Addr) (n cap : Nat) (x1 x2 x3 x4 : Int) (w : World) (h : n ≤ 9223372036854775807) : Calls Try.prog 11 #[.slice a n cap, .int .i64 x1, .int .i64 x2, .int .i64 x3, .int .i64 x4] w (BytesQ w) := by
  by_cases c1 : n ≤ 1048576
  · go_enter Try.func11, Try.ntmps11
    go_wp2
    go_ret
    exact ⟨true, rfl, rfl⟩
  · go_enter Try.func11, Try.ntmps11
    go_wp2
    go_ret
    exact ⟨false, rfl, rfl⟩

set_option maxRecDepth 100000 in
set_option maxHeartbeats 4000000 in
theorem law4 (a : Option Addr) (cap : Nat) (xs : List Int) (node f t bd : Int) (w : World) (hE : Elems .i64 w a xs) (hn : xs.length ≤ 9223372036854775807) (hnil : a = none → xs = [])
    (hnode : -9223372036854775808 ≤ node ∧ node ≤ 9223372036854775807) :
    Calls Try.prog 4 #[.slice a xs.length cap, .int .i64 node, .int .i64 f, .int .i64 t, .int .i64 bd] w (LawQ w) := by
  have Hnil : Hid (a = none → xs = []) := hnil
  clear hnil
  go_enter Try.func4, Try.ntmps4
  go_wp2_with fail
  refine (bytes11 _ _ _ _ _ _ _ _ hn).mono ?_
  rintro e w1 ⟨c, rfl, rfl⟩
  cases c
  · go_wp2
    go_ret
    exact ⟨rfl, Below.refl _ _⟩
  · by_cases h1 : xs.length ≤ 131072
    · by_cases h2 : t ≤ (xs.length : Int)
      · go_wp2_with fail
        refine (cloneInts _ _ xs _ hE (by omega) Hnil.out).mono ?_
        rintro e w1 ⟨a', cap', rfl, hE1, -, hB1⟩
        clear hE Hnil
        go_wp2_with fail
        refine (zzNewTree _ _ xs _ hE1 h1).mono ?_
        rintro e w2 ⟨L, T, g, rfl, hP, hle, hL, hT, hA, hB2⟩
        have HB : Hid (Below w.heap.size w w2) := hB1.trans (hB2.mono hB1.size)
        have hws : w.heap.size ≤ w2.heap.size := HB.out.size
        have hE2 := hE1.below hB2 (Nat.le_refl _)
        have HP : Hid (IsPow L xs.length) := hP
        have HT : Hid (Tree L (fun i => xs.getD i 0) 0 T) := hT
        have hL1 := hP.pos
        clear hP hT hE1 hB1 hB2
        by_cases h3 : node < 1
        · go_wp2
          go_ret
          exact ⟨rfl, HB.out⟩
        · by_cases h4 : node < 2 * (L : Int)
          · obtain ⟨k, rfl⟩ := Int.eq_ofNat_of_zero_le (show 0 ≤ node by omega)
            have hk1 : 1 ≤ k := by omega
            have hlt : k < 2 * L := by omega
            go_wp2
            go_loop [13] (fun v => ∃ W e : Nat, v = .int .i64 W ∧ 1 ≤ W ∧ k * W < 2 * L ∧ Hid (W = 2 ^ e ∧ (e = 0 ∨ k * 2 ^ (e - 1) < L))) (fun v => 2 * L - (intOf v).toNat)
            case atStart => exact ⟨1, 0, rfl, by omega, by omega, rfl, .inl rfl⟩
            case round =>
              obtain ⟨W, e, rfl, hW1, hW2, hWe⟩ := hrel
              obtain ⟨P, hPP⟩ : ∃ P : Nat, k * W = P := ⟨_, rfl⟩
              have hWP : W ≤ P := by rw [← hPP]; exact Nat.le_mul_of_pos_left W (by omega)
              rw [hPP] at hW2
              have hPi : (k : Int) * (W : Int) = (P : Int) := by rw [← hPP]; simp
              have HPP : Hid (k * W = P) := hPP
              clear hPP
              by_cases hPL : P < L
              · go_wp2
                go_round
                case rel => exact ⟨W * 2, e + 1, by go_num, by omega, by rw [← Nat.mul_assoc, HPP.out]; omega, by rw [hWe.out.1, Nat.pow_succ], .inr (by rw [Nat.add_sub_cancel, ← hWe.out.1, HPP.out]; exact hPL)⟩
                case measure => simp [intOf]; omega
              · have hfit : (k + 1) * W ≤ 2 * L := by rw [hWe.out.1]; exact fits HP.out hk1 hlt hWe.out.2
                have hPW : P + W ≤ 2 * L := by rw [Nat.add_mul, HPP.out] at hfit; omega
                clear hfit
                obtain ⟨lo, hlo⟩ : ∃ lo : Nat, (P : Int) - (L : Int) = (lo : Int) := ⟨P - L, by omega⟩
                have hloW : lo + W ≤ L := by omega
                have HLO : Hid (lo + L = k * 2 ^ e) := by show _ = _; rw [← hWe.out.1, HPP.out]; omega
                have HHI : Hid (lo + W = lo + 2 ^ e) := by show _ = _; rw [hWe.out.1]
                obtain ⟨hi, hhi⟩ : ∃ hi : Nat, (lo : Int) + (W : Int) = (hi : Int) := ⟨lo + W, by omega⟩
                have hhi2 : hi = lo + W := by omega
                have HHI2 : Hid (hi = lo + 2 ^ e) := by show _ = _; rw [hhi2, ← hWe.out.1]
                have hhiL : hi ≤ L := by omega
                clear hhi2 HHI
                have hcl : lo ≤ hi := by omega
                have HSR : Hid (∀ (W3 : World) (zk : Int), zk = (k : Int) → Arr W3 g (2 * L) (fun k => .int .i64 (T k)) → Calls Try.prog 12 #[.int .i64 (L : Int), .slice (some ⟨g, 0, none⟩) (2 * L) (2 * L), .int .i64 zk, .int .i64 (lo : Int), .int .i64 (hi : Int), .int .i64 f, .int .i64 t, .int .i64 bd] W3 (SearchQ (fun i => xs.getD i 0) lo hi f t bd W3)) :=
                  fun W3 zk hz hA3 => zzSearch L T _ g f t bd HT.out hL e k lo hi zk _ _ W3 hz rfl rfl hk1 HLO.out HHI2.out hhiL hA3
                go_wp2
                go_loop [16, 17] (fun wv i => ∃ j : Nat, lo ≤ j ∧ j ≤ hi ∧ i = .int .i64 j ∧ wv = .int .i64 t ∧ Hid (∀ q : Nat, lo ≤ q → q < j → f ≤ (q : Int) → (q : Int) < t → bd ≤ xs.getD q 0)) (fun _ i => hi - (intOf i).toNat)
                case atStart => exact ⟨lo, Nat.le_refl _, hcl, rfl, rfl, fun q h1 h2 => by omega⟩
                case round =>
                  obtain ⟨j, hj1, hj2, rfl, rfl, hno⟩ := hrel
                  by_cases hjh : j < hi
                  · by_cases hjt : (j : Int) < t
                    · have hjx : j < xs.length := by omega
                      obtain ⟨b, off, rfl, hc⟩ := hE2.at (by omega)
                      have hcj := hc j hjx
                      obtain ⟨v, hv⟩ : ∃ v, v = xs.getD j 0 := ⟨_, rfl⟩
                      rw [← hv] at hcj
                      have HV : Hid (v = xs.getD j 0) := hv
                      clear hv hc
                      by_cases hjf : f ≤ (j : Int)
                      · by_cases hvb : v < bd
                        · have HFR : Hid (IsFirst (fun i => xs.getD i 0) lo hi f t bd (j : Int)) := .inr ⟨j, rfl, hj1, hjh, hjf, hjt, by show xs.getD j 0 < bd; rw [← HV.out]; exact hvb, fun i a b c => hno.out i a b c (by omega)⟩
                          go_wp2_with fail
                          refine (HSR.out _ _ rfl hA).mono ?_
                          rintro e w3 ⟨r, rfl, hF, hB3⟩
                          obtain rfl : r = (j : Int) := hF.same HFR.out
                          clear hF
                          go_wp2
                          go_ret
                          exact ⟨rfl, HB.out.trans (hB3.mono hws)⟩
                        · go_wp2
                          go_round
                          case rel => exact ⟨j + 1, by omega, by omega, by go_num, rfl, fun q h1 h2 h3 h4 => by
                            by_cases c : q = j
                            · subst c; rw [← HV.out]; omega
                            · exact hno.out q h1 (by omega) h3 h4⟩
                          case measure => simp [intOf]; omega
                      · go_wp2
                        go_round
                        case rel => exact ⟨j + 1, by omega, by omega, by go_num, rfl, fun q h1 h2 h3 h4 => by
                          by_cases c : q = j
                          · subst c; omega
                          · exact hno.out q h1 (by omega) h3 h4⟩
                        case measure => simp [intOf]; omega
                    · have HFR : Hid (IsFirst (fun i => xs.getD i 0) lo hi f t bd t) := .inl ⟨rfl, fun i a b c d => hno.out i a (by omega) c d⟩
                      go_wp2_with fail
                      refine (HSR.out _ _ rfl hA).mono ?_
                      rintro e w3 ⟨r, rfl, hF, hB3⟩
                      have hrt := hF.same HFR.out
                      clear hF
                      rw [hrt]
                      clear hrt
                      go_wp2
                      go_ret
                      exact ⟨rfl, HB.out.trans (hB3.mono hws)⟩
                  · have HFR : Hid (IsFirst (fun i => xs.getD i 0) lo hi f t bd t) := .inl ⟨rfl, fun i a b c d => hno.out i a (by omega) c d⟩
                    go_wp2_with fail
                    refine (HSR.out _ _ rfl hA).mono ?_
                    rintro e w3 ⟨r, rfl, hF, hB3⟩
                    have hrt := hF.same HFR.out
                    clear hF
                    rw [hrt]
                    clear hrt
                    go_wp2
                    go_ret
                    exact ⟨rfl, HB.out.trans (hB3.mono hws)⟩
          · go_wp2
            go_ret
            exact ⟨rfl, HB.out⟩
      · go_wp2
        go_ret
        exact ⟨rfl, Below.refl _ _⟩
    · go_wp2
      go_ret
      exact ⟨rfl, Below.refl _ _⟩
end Go.Proofs.Qxb6601400a
