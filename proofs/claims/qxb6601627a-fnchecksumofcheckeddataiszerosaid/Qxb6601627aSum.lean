import Derived.Test.Qxb6601627aClone
import Derived.Laws.BitsAllLaws
import Derived.Deep.QuietTactic
import Derived.BigQuiet
namespace Go.Proofs.Qxb6601627a
open Go.RowKit

/-- Each byte weighted by its place in its word. -/
def wsum (z : Nat → Int) : Nat → Int
  | 0 => 0
  | m + 1 => wsum z m + if m % 2 = 0 then 256 * z m else z m
theorem wsum_two (z : Nat → Int) (q : Nat) : wsum z (2 * q + 2) = wsum z (2 * q) + (256 * z (2 * q) + z (2 * q + 1)) := by
  have e1 : wsum z (2 * q + 2) = wsum z (2 * q + 1) + if (2 * q + 1) % 2 = 0 then 256 * z (2 * q + 1) else z (2 * q + 1) := rfl
  have e2 : wsum z (2 * q + 1) = wsum z (2 * q) + if (2 * q) % 2 = 0 then 256 * z (2 * q) else z (2 * q) := rfl
  rw [e1, if_neg (by omega), e2, if_pos (by omega)]; omega
theorem wsum_odd (z : Nat → Int) (q : Nat) : wsum z (2 * q + 1) = wsum z (2 * q) + 256 * z (2 * q) := by
  have e2 : wsum z (2 * q + 1) = wsum z (2 * q) + if (2 * q) % 2 = 0 then 256 * z (2 * q) else z (2 * q) := rfl
  rw [e2, if_pos (by omega)]
theorem wsum_congr {z z' : Nat → Int} : ∀ {m : Nat}, (∀ i, i < m → z i = z' i) → wsum z m = wsum z' m
  | 0, _ => rfl
  | m + 1, h => by rw [wsum, wsum, wsum_congr (fun i hi => h i (by omega)), h m (by omega)]
theorem wsum_bd {z : Nat → Int} : ∀ {m : Nat}, (∀ i, i < m → 0 ≤ z i ∧ z i ≤ 255) → 0 ≤ wsum z m ∧ wsum z m ≤ 65280 * (m : Int)
  | 0, _ => by simp [wsum]
  | m + 1, h => by
    have := wsum_bd (z := z) (m := m) (fun i hi => h i (by omega))
    have := h m (by omega)
    rw [wsum]; split <;> omega

/-- A slice that leads to the numbers z 0, .., z (n - 1). -/
def ElemsF (k : IntKind) (w : World) (a : Option Addr) (n : Nat) (z : Nat → Int) : Prop :=
  n = 0 ∨ ∃ b off, a = some ⟨b, off, none⟩ ∧ ∀ i, i < n → w.cell? ⟨b, off + i, none⟩ = some (.int k (z i))
theorem ElemsF.at {k : IntKind} {w : World} {a : Option Addr} {n : Nat} {z : Nat → Int} (h : ElemsF k w a n z) (hn : 0 < n) :
    ∃ b off, a = some ⟨b, off, none⟩ ∧ ∀ i, i < n → w.cell? ⟨b, off + i, none⟩ = some (.int k (z i)) := by
  rcases h with h | h
  · omega
  · exact h
theorem ElemsF.below {k : IntKind} {w w' : World} {a : Option Addr} {n : Nat} {z : Nat → Int} (h : ElemsF k w a n z) {B : Nat} (hb : Below B w w') (hB : w.heap.size ≤ B) : ElemsF k w' a n z := by
  rcases h with h | ⟨b, off, ha, hc⟩
  · exact .inl h
  · exact .inr ⟨b, off, ha, fun i hi => (hb.cell (p := ⟨b, off + i, none⟩) (Nat.lt_of_lt_of_le (block_lt_of_cell (hc i hi)) hB)).trans (hc i hi)⟩
theorem Elems.toF {k : IntKind} {w : World} {a : Option Addr} {zs : List Int} (h : Elems k w a zs) : ElemsF k w a zs.length (fun i => zs.getD i 0) := by
  rcases h with h | h
  · subst h; exact .inl rfl
  · exact .inr h

/-- The list's numbers, 0 past its end. -/
def at0 (zs : List Int) (i : Nat) : Int := zs.getD i 0

def ValQ (v : Value) (w : World) (e : Ending) (w' : World) : Prop := e = .returned v ∧ Below w.heap.size w w'
theorem ret_int {k : IntKind} {a b : Int} (h : a = b) : Ending.returned (.int k a) = .returned (.int k b) := by rw [h]
theorem belowN {B : Nat} {a w : World} (h : Below B a w) (n : Nat) : Below B a (w.drewN n) := ⟨h.os, h.tape, h.output, h.size, h.block⟩

theorem or_word (a b : Int) (ha : 0 ≤ a ∧ a ≤ 255) (hb : 0 ≤ b ∧ b ≤ 255) : bits .or .u32 (a % 4294967296 * 256 % 4294967296) (b % 4294967296) = 256 * a + b := by
  obtain ⟨x, rfl⟩ := Int.eq_ofNat_of_zero_le ha.1
  obtain ⟨y, rfl⟩ := Int.eq_ofNat_of_zero_le hb.1
  rw [show (x : Int) % 4294967296 * 256 % 4294967296 = ((x * 256 : Nat) : Int) from by omega, show (y : Int) % 4294967296 = (y : Int) from by omega,
    u32_or_nat _ _ (by omega) (by omega), nat_join 8 (x * 256) y (by omega) (by omega)]
  omega

theorem or_word' (a b : Int) (ha : 0 ≤ a ∧ a ≤ 255) (hb : 0 ≤ b ∧ b ≤ 255) : bits .or .u32 (a * 256) b = 256 * a + b := by
  have h := or_word a b ha hb
  rwa [show a % 4294967296 * 256 % 4294967296 = a * 256 from by omega, show b % 4294967296 = b from by omega] at h

def lenOf : Value → Nat
  | .slice _ l _ => l
  | _ => 0

set_option maxRecDepth 100000 in
set_option maxHeartbeats 2000000 in
theorem sum13 (a : Option Addr) (n cap : Nat) (s : Int) (z : Nat → Int) (w : World) (hE : ElemsF .u8 w a n z) (hn : n ≤ 1048578) (hcap : n ≤ cap) (hs : 0 ≤ s ∧ s < 4294967296) (hz : ∀ i, i < n → 0 ≤ z i ∧ z i ≤ 255) :
    Calls Try.prog 13 #[.int .u32 s, .slice a n cap] w (ValQ (.int .u32 ((s + wsum z n) % 4294967296)) w) := by
  have HZ : Hid (∀ i, i < n → 0 ≤ z i ∧ z i ≤ 255) := hz
  clear hz
  go_enter Try.func13, Try.ntmps13
  go_wp2
  go_loopw [0, 1] (fun sv bv wr => ∃ (q m : Nat) (a' : Option Addr) (c' : Nat), 2 * q + m = n ∧ m ≤ c' ∧ sv = .int .u32 ((s + wsum z (2 * q)) % 4294967296) ∧ bv = .slice a' m c' ∧ ElemsF .u8 w a' m (fun i => z (2 * q + i)) ∧ Below w.heap.size w wr)
    (fun _ bv _ => lenOf bv)
  case atStart =>
    refine ⟨0, n, a, cap, by omega, by omega, ?_, rfl, by simpa using hE, Below.refl _ _⟩
    simp [wsum]; omega
  case round =>
    obtain ⟨q, m, a', c', hq, hc', rfl, rfl, hE', hB⟩ := hrel
    by_cases h2 : 2 ≤ m
    · obtain ⟨b, off, rfl, hc⟩ := hE'.at (by omega)
      have c0 : wr.cell? ⟨b, off, none⟩ = some (.int .u8 (z (2 * q))) := (hB.cell (p := ⟨b, off, none⟩) (block_lt_of_cell (hc 0 (by omega)))).trans (by simpa using hc 0 (by omega))
      have c1 : wr.cell? ⟨b, off + 1, none⟩ = some (.int .u8 (z (2 * q + 1))) := (hB.cell (p := ⟨b, off + 1, none⟩) (block_lt_of_cell (hc 1 (by omega)))).trans (hc 1 (by omega))
      have b0 := HZ.out (2 * q) (by omega)
      have b1 := HZ.out (2 * q + 1) (by omega)
      have HT := wsum_two z q
      have HT' : Hid (wsum z (2 * q + 2) = wsum z (2 * q) + (256 * z (2 * q) + z (2 * q + 1))) := HT
      have HQ : Hid (2 * q + m = n) := hq
      have HE : Hid (∀ i, i < m → w.cell? ⟨b, off + i, none⟩ = some (.int .u8 (z (2 * q + i)))) := hc
      clear HT hc hE' hq hE
      generalize z (2 * q) = x at *
      generalize z (2 * q + 1) = y at *
      have g0 : (0 : Int) < (m : Int) := by omega
      have g1 : (1 : Int) < (m : Int) := by omega
      go_wp2
      go_quiet (fail)
      by_cases h3 : c' = 2
      · subst h3
        obtain rfl : m = 2 := by omega
        go_wp2
        go_roundw
        case rel => exact ⟨q + 1, 0, _, _, by have := HQ.out; omega, by omega, by rw [or_word' x y b0 b1, show 2 * (q + 1) = 2 * q + 2 from by omega, HT'.out]; congr 1; omega, rfl, .inl rfl, belowN hB _⟩
        case measure => simp [lenOf]
      · have h4 : 2 < c' := by omega
        go_wp2
        go_roundw
        case rel => exact ⟨q + 1, m - 2, _, _, by have := HQ.out; omega, by omega, by rw [or_word' x y b0 b1, show 2 * (q + 1) = 2 * q + 2 from by omega, HT'.out]; congr 1; omega, rfl, .inr ⟨b, off + 2, rfl, fun i hi => by
          have := HE.out (i + 2) (by omega)
          show w.cell? ⟨b, off + 2 + i, none⟩ = some (.int .u8 (z (2 * (q + 1) + i)))
          rw [show off + 2 + i = off + (i + 2) from by omega, show 2 * (q + 1) + i = 2 * q + (i + 2) from by omega]; exact this⟩, belowN hB _⟩
        case measure => simp [lenOf]; omega
    · by_cases h1 : m = 1
      · subst h1
        obtain ⟨b, off, rfl, hc⟩ := hE'.at (by omega)
        have c0 : wr.cell? ⟨b, off, none⟩ = some (.int .u8 (z (2 * q))) := (hB.cell (p := ⟨b, off, none⟩) (block_lt_of_cell (hc 0 (by omega)))).trans (by simpa using hc 0 (by omega))
        have b0 := HZ.out (2 * q) (by omega)
        have HO : Hid (wsum z n = wsum z (2 * q) + 256 * z (2 * q)) := by show _ = _; rw [← hq]; exact wsum_odd z q
        generalize z (2 * q) = x at *
        clear hc hE' hE hq
        go_wp2
        go_ret
        refine ⟨ret_int ?_, hB⟩
        rw [HO.out]; omega
      · obtain rfl : m = 0 := by omega
        obtain rfl : n = 2 * q := by omega
        clear hE' hE hq
        go_wp2
        go_ret
        exact ⟨rfl, hB⟩
theorem zzsum (a : Option Addr) (n cap : Nat) (s : Int) (z : Nat → Int) (w : World) (hE : ElemsF .u8 w a n z) (hn : n ≤ 1048578) (hcap : n ≤ cap) (hs : 0 ≤ s ∧ s < 4294967296) (hz : ∀ i, i < n → 0 ≤ z i ∧ z i ≤ 255) :
    Calls Try.prog 9 #[.int .u32 s, .slice a n cap] w (ValQ (.int .u32 ((s + wsum z n) % 4294967296)) w) := by
  have HZ : Hid (∀ i, i < n → 0 ≤ z i ∧ z i ≤ 255) := hz
  clear hz
  go_enter Try.func9, Try.ntmps9
  go_wp2_with fail
  refine (sum13 a n cap s z _ hE hn hcap hs HZ.out).mono ?_
  rintro e w1 ⟨rfl, hb1⟩
  go_wp2
  go_ret
  exact ⟨rfl, hb1⟩

def BytesQ (w : World) (e : Ending) (w' : World) : Prop := ∃ c, e = .returned (.bool c) ∧ w = w'
set_option maxHeartbeats 400000 in
theorem bytes7 (a : Option Addr) (n cap : Nat) (s : Int) (w : World) (h : n ≤ 9223372036854775807) : Calls Try.prog 7 #[.int .u32 s, .slice a n cap] w (BytesQ w) := by
  by_cases c1 : n ≤ 1048576
  · go_enter Try.func7, Try.ntmps7
    go_wp2
    go_ret
    exact ⟨true, rfl, rfl⟩
  · go_enter Try.func7, Try.ntmps7
    go_wp2
    go_ret
    exact ⟨false, rfl, rfl⟩

set_option maxRecDepth 100000 in
set_option maxHeartbeats 2000000 in
theorem law3 (a : Option Addr) (cap : Nat) (zs : List Int) (s : Int) (w : World) (hE : Elems .u8 w a zs) (hn : zs.length ≤ 9223372036854775807) (hnil : a = none → zs = []) (hs : 0 ≤ s ∧ s ≤ 4294967295) (hr : ∀ i, 0 ≤ zs.getD i 0 ∧ zs.getD i 0 ≤ 255) :
    Calls Try.prog 3 #[.int .u32 s, .slice a zs.length cap] w (ValQ (.bool true) w) := by
  have Hnil : Hid (a = none → zs = []) := hnil
  have HR : Hid (∀ i, 0 ≤ zs.getD i 0 ∧ zs.getD i 0 ≤ 255) := hr
  clear hnil hr
  go_enter Try.func3, Try.ntmps3
  go_wp2_with fail
  refine (bytes7 _ _ _ _ _ hn).mono ?_
  rintro e w1 ⟨c, rfl, rfl⟩
  cases c
  · go_wp2
    go_ret
    exact ⟨rfl, Below.refl _ _⟩
  · by_cases h1 : zs.length ≤ 1048576
    · go_wp2_with fail
      refine (cloneB _ _ zs _ hE h1 Hnil.out).mono ?_
      rintro e w1 ⟨a', cap', rfl, hE1, -, hcp, hB1⟩
      clear hE Hnil
      go_wp2
      go_loop [5, 6] (fun sv i => ∃ m : Nat, m ≤ zs.length ∧ i = .int .i64 m ∧ sv = .int .u32 ((s + wsum (at0 zs) m) % 4294967296)) (fun _ i => zs.length - (intOf i).toNat)
      case atStart => exact ⟨0, by omega, rfl, by simp [wsum]; omega⟩
      case round =>
        obtain ⟨m, hm, rfl, rfl⟩ := hrel
        by_cases hlt : m < zs.length
        · obtain ⟨b, off, rfl, hc⟩ := hE1.at (by omega)
          have hcm := hc m hlt
          have hrm := HR.out m
          have HS : Hid (wsum (at0 zs) (m + 1) = wsum (at0 zs) m + if m % 2 = 0 then 256 * zs.getD m 0 else zs.getD m 0) := rfl
          clear hc
          generalize zs.getD m 0 = y at *
          generalize wsum (at0 zs) m = S at *
          cases hp : ((m : Int) % 2 == 0)
          · have hp' : ¬ m % 2 = 0 := by have : ¬ ((m : Int) % 2 = 0) := by simpa using hp
                                         omega
            have HS2 : Hid (wsum (at0 zs) (m + 1) = S + y) := by show _ = _; rw [HS.out, if_neg hp']
            clear hp' HS
            go_wp2
            go_round
            case rel => exact ⟨m + 1, by omega, by go_num, by rw [HS2.out]; congr 1; omega⟩
            case measure => simp [intOf]; omega
          · have hp' : m % 2 = 0 := by have : (m : Int) % 2 = 0 := by simpa using hp
                                       omega
            have HS2 : Hid (wsum (at0 zs) (m + 1) = S + 256 * y) := by show _ = _; rw [HS.out, if_pos hp']
            clear hp' HS
            go_wp2
            go_round
            case rel => exact ⟨m + 1, by omega, by go_num, by rw [HS2.out]; congr 1; omega⟩
            case measure => simp [intOf]; omega
        · obtain rfl : m = zs.length := by omega
          go_wp2_with fail
          refine (zzsum _ _ _ s (at0 zs) _ hE1.toF (by omega) hcp (by omega) (fun i _ => HR.out i)).mono ?_
          rintro e w2 ⟨rfl, hb2⟩
          generalize wsum (at0 zs) zs.length = S at *
          go_wp2
          go_ret
          exact ⟨by simp, hB1.trans (hb2.mono hB1.size)⟩
    · go_wp2
      go_ret
      exact ⟨rfl, Below.refl _ _⟩
end Go.Proofs.Qxb6601627a
