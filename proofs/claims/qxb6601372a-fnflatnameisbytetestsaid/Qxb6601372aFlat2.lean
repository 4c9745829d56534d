import Derived.Test.Qxb6601372aFlat
namespace Go.Proofs.Qxb6601372a
open Go.RowKit

def flatB (s : ByteArray) : Bool := decide (4 ≤ s.size) && (List.range s.size).all (fun i => !offB (byt s i))
theorem flatB_iff (s : ByteArray) : flatB s = true ↔ 4 ≤ s.size ∧ ∀ i, i < s.size → ¬ off (byt s i) := by
  simp only [flatB, Bool.and_eq_true, decide_eq_true_iff, List.all_eq_true, List.mem_range, Bool.not_eq_true', ← offB_iff, Bool.not_eq_true]
theorem flatB_false (s : ByteArray) (i : Nat) (hi : i < s.size) (h : off (byt s i)) : flatB s = false := by
  cases e : flatB s
  · rfl
  · exact absurd h (((flatB_iff s).1 e).2 i hi)
theorem offWord (s : ByteArray) (i : Nat) : offW (wordN s i 8) = true ↔ ∃ j, j < 8 ∧ off (byt s (i + j)) := by
  rw [offW_iff _ (wordN_lt s 8 i)]
  exact exists_congr fun j => and_congr_right fun hj => by rw [wordN_byte s 8 i j hj]
theorem two_words (s : ByteArray) (h4 : 4 ≤ s.size) (h8 : s.size < 8) : (!offW (wordN s 0 4 + 4294967296 * wordN s (s.size - 4) 4)) = flatB s := by
  have l0 := wordN_lt s 4 0
  have l1 := wordN_lt s 4 (s.size - 4)
  have hlt : wordN s 0 4 + 4294967296 * wordN s (s.size - 4) 4 < 18446744073709551616 := by omega
  have hb : ∀ j, j < 8 → (wordN s 0 4 + 4294967296 * wordN s (s.size - 4) 4) / 256 ^ j % 256 = if j < 4 then byt s j else byt s (s.size - 4 + (j - 4)) := by
    intro j hj
    have p : ∀ j, j < 4 → wordN s 0 4 / 256 ^ j % 256 = byt s j := fun j hj => by have := wordN_byte s 4 0 j hj; rwa [Nat.zero_add] at this
    have q : ∀ j, j < 4 → wordN s (s.size - 4) 4 / 256 ^ j % 256 = byt s (s.size - 4 + j) := fun j hj => wordN_byte s 4 _ j hj
    have p0 := p 0 (by omega); have p1 := p 1 (by omega); have p2 := p 2 (by omega); have p3 := p 3 (by omega)
    have q0 := q 0 (by omega); have q1 := q 1 (by omega); have q2 := q 2 (by omega); have q3 := q 3 (by omega)
    clear p q
    generalize wordN s 0 4 = A at *
    generalize wordN s (s.size - 4) 4 = B at *
    rcases (show j = 0 ∨ j = 1 ∨ j = 2 ∨ j = 3 ∨ j = 4 ∨ j = 5 ∨ j = 6 ∨ j = 7 from by omega) with rfl | rfl | rfl | rfl | rfl | rfl | rfl | rfl <;> simp only [Nat.reduceLT, Nat.reduceSub, if_true, if_false, Nat.reducePow] at * <;> omega
  have key : offW (wordN s 0 4 + 4294967296 * wordN s (s.size - 4) 4) = true ↔ ∃ i, i < s.size ∧ off (byt s i) := by
    rw [offW_iff _ hlt]
    constructor
    · rintro ⟨j, hj, ho⟩
      rw [hb j hj] at ho
      by_cases c : j < 4
      · rw [if_pos c] at ho; exact ⟨j, by omega, ho⟩
      · rw [if_neg c] at ho; exact ⟨_, by omega, ho⟩
    · rintro ⟨i, hi, ho⟩
      by_cases c : i < 4
      · exact ⟨i, by omega, by rw [hb i (by omega), if_pos c]; exact ho⟩
      · exact ⟨i - (s.size - 4) + 4, by omega, by rw [hb _ (by omega), if_neg (by omega), show s.size - 4 + (i - (s.size - 4) + 4 - 4) = i from by omega]; exact ho⟩
  rw [Bool.eq_iff_iff, flatB_iff, Bool.not_eq_true', ← Bool.not_eq_true, key]
  constructor
  · intro h
    exact ⟨h4, fun i hi ho => h ⟨i, hi, ho⟩⟩
  · rintro ⟨_, h⟩ ⟨i, hi, ho⟩
    exact h i hi ho
theorem last_word (s : ByteArray) (h8 : 8 ≤ s.size) (i : Nat) (hi : s.size ≤ i + 8) (hg : ∀ j, j < i → j < s.size → ¬ off (byt s j)) : (!offW (wordN s (s.size - 8) 8)) = flatB s := by
  rw [Bool.eq_iff_iff, flatB_iff, Bool.not_eq_true', ← Bool.not_eq_true, offWord]
  constructor
  · intro h
    refine ⟨by omega, fun j hj ho => ?_⟩
    by_cases c : j < i
    · exact hg j c hj ho
    · exact h ⟨j - (s.size - 8), by omega, by rw [show s.size - 8 + (j - (s.size - 8)) = j from by omega]; exact ho⟩
  · rintro ⟨_, h⟩ ⟨j, hj, ho⟩
    exact h _ (by omega) ho

theorem word64' (s : ByteArray) (z : Int) (w : World) (h0 : 0 ≤ z) (hi : z + 8 ≤ (s.size : Int)) (hs : s.size ≤ 1048576) :
    Calls Try.prog 35 #[.string s, .int .i64 z] w (ValQ (.int .u64 (wordN s z.toNat 8 : Nat)) w) := by
  obtain ⟨n, rfl⟩ := Int.eq_ofNat_of_zero_le h0
  exact word64 s n w (by omega) hs
theorem word32' (s : ByteArray) (z : Int) (w : World) (h0 : 0 ≤ z) (hi : z + 4 ≤ (s.size : Int)) (hs : s.size ≤ 1048576) :
    Calls Try.prog 34 #[.string s, .int .i64 z] w (ValQ (.int .u32 (wordN s z.toNat 4 : Nat)) w) := by
  obtain ⟨n, rfl⟩ := Int.eq_ofNat_of_zero_le h0
  exact word32 s n w (by omega) hs
theorem bytesOff' (z : Int) (v : Nat) (w : World) (hz : z = (v : Int)) (hv : v < 18446744073709551616) : Calls Try.prog 33 #[.int .u64 z] w (ValQ (.bool (offW v)) w) := by
  subst hz; exact bytesOff v w hv
theorem join_words (a b : Nat) (ha : a < 4294967296) (hb : b < 4294967296) : bits .or .u64 (IntKind.u64.wrap (a : Int)) (IntKind.u64.wrap (IntKind.u64.wrap (b : Int) * 4294967296)) = ((a + 4294967296 * b : Nat) : Int) := by
  have e := sh64 b 4294967296 (by omega) (by omega)
  simp only [Int.cast_ofNat_Int] at e
  rw [wr64 a (by omega), e, or_join64 32 _ _ (by omega) (by omega) (by omega) (by omega), Nat.mul_comm]

set_option maxRecDepth 100000 in
set_option maxHeartbeats 2000000 in
theorem flatName (s : ByteArray) (w : World) (hs : s.size ≤ 1048576) : Calls Try.prog 28 #[.string s] w (ValQ (.bool (flatB s)) w) := by
  by_cases h4 : s.size < 4
  · go_enter Try.func28, Try.ntmps28
    go_wp2
    go_ret
    refine ⟨?_, Below.refl _ _⟩
    have : flatB s = false := by
      cases e : flatB s
      · rfl
      · have := ((flatB_iff s).1 e).1; omega
    rw [this]; rfl
  · by_cases h8 : s.size < 8
    · go_enter Try.func28, Try.ntmps28
      go_wp2_with fail
      refine (word32' s _ _ (by omega) (by omega) hs).mono ?_
      rintro e w1 ⟨rfl, hb1⟩
      go_wp2_with fail
      refine (word32' s _ _ (by omega) (by omega) hs).mono ?_
      rintro e w2 ⟨rfl, hb2⟩
      go_wp2_with fail
      refine (bytesOff' _ _ _ (join_words _ _ (wordN_lt s 4 _) (wordN_lt s 4 _)) (by have := wordN_lt s 4 0; have := wordN_lt s 4 (s.size - 4); omega)).mono ?_
      rintro e w3 ⟨rfl, hb3⟩
      go_wp2
      go_ret
      refine ⟨?_, (hb1.trans (hb2.mono hb1.size)).trans (hb3.mono (Nat.le_trans hb1.size hb2.size))⟩
      rw [← two_words s (by omega) h8]
      rfl
    · have H2 : Hid (∀ i, s.size ≤ i + 8 → (∀ j, j < i → j < s.size → ¬ off (byt s j)) → (!offW (wordN s (s.size - 8) 8)) = flatB s) := fun i hi hg => last_word s (by omega) i hi hg
      go_enter Try.func28, Try.ntmps28
      go_wp2
      go_loopw [3] (fun i wr => ∃ k : Nat, k ≤ s.size ∧ i = .int .i64 k ∧ (∀ j, j < k → j < s.size → ¬ off (byt s j)) ∧ Below w.heap.size w wr) (fun i _ => s.size - (intOf i).toNat)
      case atStart => exact ⟨0, Nat.zero_le _, rfl, fun j h => by omega, Below.refl _ _⟩
      case round =>
        obtain ⟨k, hk, rfl, hg, hB⟩ := hrel
        have HG : Hid (∀ j, j < k → j < s.size → ¬ off (byt s j)) := hg
        clear hg
        by_cases hlt : k + 8 < s.size
        · go_wp2_with fail
          refine (word64' s _ _ (by omega) (by omega) hs).mono ?_
          rintro e w1 ⟨rfl, hb1⟩
          go_wp2_with fail
          refine (bytesOff' _ _ _ rfl (wordN_lt s 8 _)).mono ?_
          rintro e w2 ⟨rfl, hb2⟩
          cases ho : offW (wordN s k 8)
          · go_wp2
            go_roundw
            case rel =>
              refine ⟨k + 8, by omega, by go_num, fun j hj hj2 hoff => ?_, (hB.trans (hb1.mono hB.size)).trans (hb2.mono (Nat.le_trans hB.size hb1.size))⟩
              by_cases c : j < k
              · exact HG.out j c hj2 hoff
              · have : offW (wordN s k 8) = true := (offWord s k).2 ⟨j - k, by omega, by rw [show k + (j - k) = j from by omega]; exact hoff⟩
                rw [ho] at this; cases this
            case measure => simp [intOf]; omega
          · go_wp2
            go_ret
            obtain ⟨j, hj, hoff⟩ := (offWord s k).1 ho
            refine ⟨?_, (hB.trans (hb1.mono hB.size)).trans (hb2.mono (Nat.le_trans hB.size hb1.size))⟩
            rw [flatB_false s (k + j) (by omega) hoff]; rfl
        · have HE : Hid ((!offW (wordN s (s.size - 8) 8)) = flatB s) := H2.out k (by omega) HG.out
          go_wp2_with fail
          refine (word64' s _ _ (by omega) (by omega) hs).mono ?_
          rintro e w1 ⟨rfl, hb1⟩
          go_wp2_with fail
          refine (bytesOff' _ _ _ rfl (wordN_lt s 8 _)).mono ?_
          rintro e w2 ⟨rfl, hb2⟩
          go_wp2
          go_ret
          refine ⟨?_, (hB.trans (hb1.mono hB.size)).trans (hb2.mono (Nat.le_trans hB.size hb1.size))⟩
          rw [← HE.out]
          rfl

set_option maxHeartbeats 1000000 in
theorem flatByByte (s : ByteArray) (w : World) (hs : s.size ≤ 1048576) : Calls Try.prog 11 #[.string s] w (ValQ (.bool (flatB s)) w) := by
  by_cases h4 : s.size < 4
  · go_enter Try.func11, Try.ntmps11
    go_wp2
    go_ret
    refine ⟨?_, Below.refl _ _⟩
    have : flatB s = false := by
      cases e : flatB s
      · rfl
      · have := ((flatB_iff s).1 e).1; omega
    rw [this]; rfl
  · go_enter Try.func11, Try.ntmps11
    go_wp2
    go_loop [3] (fun i => ∃ k : Nat, k ≤ s.size ∧ i = .int .i64 k ∧ (∀ j, j < k → ¬ off (byt s j))) (fun i => s.size - (intOf i).toNat)
    case atStart => exact ⟨0, Nat.zero_le _, rfl, fun j h => by omega⟩
    case round =>
      obtain ⟨k, hk, rfl, hg⟩ := hrel
      have HG : Hid (∀ j, j < k → ¬ off (byt s j)) := hg
      clear hg
      by_cases hlt : k < s.size
      · have hb := byt_eq s k hlt
        have hl := byt_lt s k
        have HB : Hid (byt s k = s[k].toNat) := hb
        rw [hb] at hl
        clear hb
        by_cases ho : off (byt s k)
        · have HO : Hid (off (byt s k)) := ho
          have HF : Hid (flatB s = false) := flatB_false s k hlt ho
          have hoo : s[k].toNat < 33 ∨ 126 < s[k].toNat ∨ s[k].toNat = 47 := by rw [← HB.out]; exact ho
          clear ho
          rcases hoo with h | h | h
          · have h' : ((s[k].toNat : Nat) : Int) < 33 := by omega
            go_wp2
            all_goals first | (exfalso; omega) | (go_ret; exact ⟨by rw [HF.out]; rfl, Below.refl _ _⟩)
          · have h' : (126 : Int) < ((s[k].toNat : Nat) : Int) := by omega
            have h2 : ¬ ((s[k].toNat : Nat) : Int) < 33 := by omega
            go_wp2
            all_goals first | (exfalso; omega) | (go_ret; exact ⟨by rw [HF.out]; rfl, Below.refl _ _⟩)
          · have h' : (((s[k].toNat : Nat) : Int) == 47) = true := by simp; omega
            have h2 : ¬ ((s[k].toNat : Nat) : Int) < 33 := by omega
            have h3 : ¬ (126 : Int) < ((s[k].toNat : Nat) : Int) := by omega
            have HH : Hid (s[k].toNat = 47) := h
            clear h
            go_wp2
            all_goals first | (exfalso; omega) | (go_ret; exact ⟨by rw [HF.out]; rfl, Below.refl _ _⟩)
        · have HO : Hid (¬ off (byt s k)) := ho
          have hoo : ¬ (s[k].toNat < 33 ∨ 126 < s[k].toNat ∨ s[k].toNat = 47) := by rw [← HB.out]; exact ho
          have h1 : ¬ ((s[k].toNat : Nat) : Int) < 33 := by omega
          have h2 : ¬ (126 : Int) < ((s[k].toNat : Nat) : Int) := by omega
          have h3 : (((s[k].toNat : Nat) : Int) == 47) = false := by simp; omega
          clear ho hoo
          go_wp2
          go_round
          case rel => exact ⟨k + 1, by omega, by go_num, fun j hj => by
            by_cases c : j = k
            · subst c; exact HO.out
            · exact HG.out j (by omega)⟩
          case measure => simp [intOf]; omega
      · obtain rfl : k = s.size := by omega
        go_wp2
        go_ret
        have : flatB s = true := (flatB_iff s).2 ⟨by omega, HG.out⟩
        exact ⟨by rw [this]; rfl, Below.refl _ _⟩

theorem zzFlat (s : ByteArray) (w : World) (hs : s.size ≤ 1048576) : Calls Try.prog 10 #[.string s] w (ValQ (.bool (flatB s)) w) := by
  go_enter Try.func10, Try.ntmps10
  go_wp2_with fail
  refine (flatName s _ hs).mono ?_
  rintro e w1 ⟨rfl, hb1⟩
  go_wp2
  go_ret
  exact ⟨rfl, hb1⟩

theorem flatLaw (s : ByteArray) (w : World) (hs : s.size ≤ 9223372036854775807) : Calls Try.prog 3 #[.string s] w (ValQ (.bool true) w) := by
  by_cases h : s.size ≤ 1048576
  · go_enter Try.func3, Try.ntmps3
    go_wp2_with (first | (go_at_call 9; go_in) | fail)
    refine (zzFlat s _ h).mono ?_
    rintro e w1 ⟨rfl, hb1⟩
    go_wp2_with fail
    refine (flatByByte s _ h).mono ?_
    rintro e w2 ⟨rfl, hb2⟩
    cases flatB s
    all_goals
      go_wp2
      go_ret
      exact ⟨rfl, hb1.trans (hb2.mono hb1.size)⟩
  · go_enter Try.func3, Try.ntmps3
    go_wp2
    go_ret
    exact ⟨rfl, Below.refl _ _⟩
end Go.Proofs.Qxb6601372a
