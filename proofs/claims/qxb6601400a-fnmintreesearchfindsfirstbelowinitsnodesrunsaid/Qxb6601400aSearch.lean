import Derived.Test.Qxb6601400aLaw3
namespace Go.Proofs.Qxb6601400a
open Go.RowKit

def SearchQ (z : Nat → Int) (lo hi : Nat) (f t bd : Int) (w : World) (e : Ending) (w' : World) : Prop :=
  ∃ r, e = .returned (.int .i64 r) ∧ IsFirst z lo hi f t bd r ∧ Below w.heap.size w w'

/-- What the search at a node of height e says. -/
def SearchAt (L : Nat) (T z : Nat → Int) (g : Nat) (f t bd : Int) (e : Nat) : Prop :=
  ∀ (k lo hi : Nat) (zk zlo zhi : Int) (w : World), zk = (k : Int) → zlo = (lo : Int) → zhi = (hi : Int) → 1 ≤ k → lo + L = k * 2 ^ e → hi = lo + 2 ^ e → hi ≤ L → Arr w g (2 * L) (fun k => .int .i64 (T k)) →
    Calls Try.prog 24 #[.agg #[.int .i64 (L : Int), .slice (some ⟨g, 0, none⟩) (2 * L) (2 * L)], .int .i64 zk, .int .i64 zlo, .int .i64 zhi, .int .i64 f, .int .i64 t, .int .i64 bd] w (SearchQ z lo hi f t bd w)

set_option maxRecDepth 100000 in
set_option maxHeartbeats 4000000 in
theorem search_step (L : Nat) (T z : Nat → Int) (g : Nat) (f t bd : Int) (hT : Tree L z 0 T) (hL : L ≤ 262144) (e : Nat) (ih : ∀ e', e = e' + 1 → SearchAt L T z g f t bd e') : SearchAt L T z g f t bd e := by
  rintro k lo hi _ _ _ w rfl rfl rfl hk hlo hhi hhiL hA
  have hp : 1 ≤ 2 ^ e := Nat.one_le_two_pow
  have hk1 : (k + 1) * 2 ^ e = k * 2 ^ e + 2 ^ e := by rw [Nat.add_mul]; omega
  have hrun := hT.run e k hk (by omega) (by omega)
  rw [← hlo, show lo + L - L = lo from by omega] at hrun
  have hkb : k ≤ k * 2 ^ e := Nat.le_mul_of_pos_right k (by omega)
  have hkL : k < 2 * L := by omega
  have HIH : Hid (∀ e', e = e' + 1 → SearchAt L T z g f t bd e') := ih
  have HLO : Hid (lo + L = k * 2 ^ e) := hlo
  have HHI : Hid (hi = lo + 2 ^ e) := hhi
  have hlh : lo < hi := by omega
  have HRUN : Hid (∀ i, lo ≤ i → i < hi → T k ≤ z i) := fun i h1 h2 => by rw [hrun]; exact rm1_le z lo _ i h1 (by omega)
  have HLEAF : Hid (e = 0 → T k = z lo) := fun h => by subst h; rw [hrun]; rfl
  have hck : (w.alloc (.cells #[.int .i64 (L : Int), .slice (some ⟨g, 0, none⟩) (2 * L) (2 * L)] 40)).cell? ⟨g, k, none⟩ = some (.int .i64 (T k)) := (hA.alloc _).cell k hkL
  have hA1 := hA.alloc (.cells #[.int .i64 (L : Int), .slice (some ⟨g, 0, none⟩) (2 * L) (2 * L)] 40)
  have hgl : g < w.heap.size := hA.lt
  have hgne : ¬ g = w.heap.size := by omega
  have HT1 : Hid (∃ tk, tk = T k) := ⟨_, rfl⟩
  obtain ⟨tk, htk⟩ := HT1.out
  rw [← htk] at hck HRUN HLEAF
  clear ih hlo hhi hp hk1 hrun hkb HT1 htk
  by_cases cA : (hi : Int) ≤ f
  · go_enter Try.func24, Try.ntmps24
    go_wp2
    go_ret
    exact ⟨t, rfl, .inl ⟨rfl, fun i h1 h2 h3 h4 => by omega⟩, (Below.refl _ _).alloc (Nat.le_refl _) _⟩
  · by_cases cB : t ≤ (lo : Int)
    · go_enter Try.func24, Try.ntmps24
      go_wp2
      go_ret
      exact ⟨t, rfl, .inl ⟨rfl, fun i h1 h2 h3 h4 => by omega⟩, (Below.refl _ _).alloc (Nat.le_refl _) _⟩
    · by_cases cC : bd ≤ tk
      · go_enter Try.func24, Try.ntmps24
        go_wp2
        go_ret
        exact ⟨t, rfl, .inl ⟨rfl, fun i h1 h2 h3 h4 => by have := HRUN.out i h1 h2; omega⟩, (Below.refl _ _).alloc (Nat.le_refl _) _⟩
      · cases e with
        | zero =>
          have h1 : (hi : Int) - (lo : Int) = 1 := by have := HHI.out; simp at this; omega
          have HLF : Hid (tk = z lo) := HLEAF.out rfl
          clear HLEAF
          go_enter Try.func24, Try.ntmps24
          go_wp2
          go_ret
          refine ⟨(lo : Int), rfl, .inr ⟨lo, rfl, Nat.le_refl _, hlh, by omega, by omega, ?_, fun i h1 h2 => by omega⟩, (Below.refl _ _).alloc (Nat.le_refl _) _⟩
          rw [← HLF.out]; omega
        | succ e' =>
          have hp : 1 ≤ 2 ^ e' := Nat.one_le_two_pow
          have h2p : 2 ^ (e' + 1) = 2 * 2 ^ e' := by rw [Nat.pow_succ]; omega
          have hkk : k * 2 ^ (e' + 1) = 2 * k * 2 ^ e' := by rw [h2p, ← Nat.mul_assoc, Nat.mul_comm k 2]
          have hb : (2 * k + 1) * 2 ^ e' = 2 * k * 2 ^ e' + 2 ^ e' := by rw [Nat.add_mul]; omega
          have hhi := HHI.out
          have hlo := HLO.out
          have hne : ((hi : Int) - (lo : Int) == 1) = false := by simp; omega
          have HMID : Hid (((lo : Int) + (hi : Int)) / 2 = ((lo + 2 ^ e' : Nat) : Int)) := by show _ = _; omega
          have HA1 : Hid (lo + L = 2 * k * 2 ^ e') := by show _ = _; omega
          have HA2 : Hid (lo + 2 ^ e' + L = (2 * k + 1) * 2 ^ e') := by show _ = _; omega
          have HA3 : Hid (hi = lo + 2 ^ e' + 2 ^ e') := by show _ = _; omega
          have HI := HIH.out e' rfl
          clear hhi hlo hb hkk h2p HHI HLO HIH hp HLEAF HRUN
          have HI' : Hid (SearchAt L T z g f t bd e') := HI
          clear HI
          go_enter Try.func24, Try.ntmps24
          go_wp2_with fail
          refine (HI'.out (2 * k) lo (lo + 2 ^ e') _ _ _ _ (by omega) rfl HMID.out (by omega) HA1.out rfl (by have := HA3.out; omega) hA1).mono ?_
          rintro e w1 ⟨r, rfl, hF, hB1⟩
          have hb0 : w1.cell? ⟨w.heap.size, 0, none⟩ = some (.int .i64 (L : Int)) := (hB1.cell (p := ⟨w.heap.size, 0, none⟩) (by simp)).trans (by simp)
          have hb1 : w1.cell? ⟨w.heap.size, 1, none⟩ = some (.slice (some ⟨g, 0, none⟩) (2 * L) (2 * L)) := (hB1.cell (p := ⟨w.heap.size, 1, none⟩) (by simp)).trans (by simp)
          have hA2 := hA1.below hB1 hA1.lt
          have hB0 : Below w.heap.size w w1 := ((Below.refl w.heap.size w).alloc (Nat.le_refl _) _).trans (hB1.mono (by simp))
          have HF : Hid (IsFirst z lo (lo + 2 ^ e') f t bd r) := hF
          clear hF hB1 hA1 hA hck
          by_cases hrt : r < t
          · go_wp2
            go_ret
            exact ⟨r, rfl, HF.out.left (by have := HA3.out; omega) hrt, hB0⟩
          · go_wp2_with fail
            refine (HI'.out (2 * k + 1) (lo + 2 ^ e') hi _ _ _ _ (by omega) HMID.out rfl (by omega) HA2.out HA3.out hhiL hA2).mono ?_
            rintro e w2 ⟨r2, rfl, hF2, hB2⟩
            have HF2 : Hid (IsFirst z (lo + 2 ^ e') hi f t bd r2) := hF2
            clear hF2
            go_wp2
            go_ret
            exact ⟨r2, rfl, HF.out.right (Int.not_lt.2 hrt) (Nat.le_add_right _ _) HF2.out, hB0.trans (hB2.mono hB0.size)⟩

theorem search (L : Nat) (T z : Nat → Int) (g : Nat) (f t bd : Int) (hT : Tree L z 0 T) (hL : L ≤ 262144) : ∀ e, SearchAt L T z g f t bd e
  | 0 => search_step L T z g f t bd hT hL 0 (fun e' h => by omega)
  | e + 1 => search_step L T z g f t bd hT hL (e + 1) (fun e' h => by
      obtain rfl : e' = e := by omega
      exact search L T z g f t bd hT hL e')

set_option maxHeartbeats 1000000 in
theorem zzSearch (L : Nat) (T z : Nat → Int) (g : Nat) (f t bd : Int) (hT : Tree L z 0 T) (hL : L ≤ 262144) (e k lo hi : Nat) (zk zlo zhi : Int) (w : World) (h1 : zk = (k : Int)) (h2 : zlo = (lo : Int)) (h3 : zhi = (hi : Int)) (h4 : 1 ≤ k)
    (h5 : lo + L = k * 2 ^ e) (h6 : hi = lo + 2 ^ e) (h7 : hi ≤ L) (hA : Arr w g (2 * L) (fun k => .int .i64 (T k))) :
    Calls Try.prog 12 #[.int .i64 (L : Int), .slice (some ⟨g, 0, none⟩) (2 * L) (2 * L), .int .i64 zk, .int .i64 zlo, .int .i64 zhi, .int .i64 f, .int .i64 t, .int .i64 bd] w (SearchQ z lo hi f t bd w) := by
  have HS : Hid (SearchAt L T z g f t bd e) := search L T z g f t bd hT hL e
  have H1 : Hid (zk = (k : Int)) := h1
  have H2 : Hid (zlo = (lo : Int)) := h2
  have H3 : Hid (zhi = (hi : Int)) := h3
  have H5 : Hid (lo + L = k * 2 ^ e) := h5
  have H6 : Hid (hi = lo + 2 ^ e) := h6
  clear h1 h2 h3 h5 h6
  go_enter Try.func12, Try.ntmps12
  go_wp2_with fail
  refine (HS.out k lo hi _ _ _ _ H1.out H2.out H3.out h4 H5.out H6.out h7 hA).mono ?_
  rintro e w1 ⟨r, rfl, hF, hB⟩
  have HF : Hid (IsFirst z lo hi f t bd r) := hF
  clear hF
  go_wp2
  go_ret
  exact ⟨r, rfl, HF.out, hB⟩
end Go.Proofs.Qxb6601400a
