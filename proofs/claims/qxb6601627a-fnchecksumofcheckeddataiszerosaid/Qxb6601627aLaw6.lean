import Derived.Test.Qxb6601627aCheck
namespace Go.Proofs.Qxb6601627a
open Go.RowKit

theorem zzsum0 (a : Option Addr) (n cap : Nat) (z : Nat → Int) (w : World) (hE : ElemsF .u8 w a n z) (hn : n ≤ 65539) (hcap : n ≤ cap) (hz : ∀ i, i < n → 0 ≤ z i ∧ z i ≤ 255) :
    Calls Try.prog 9 #[.int .u32 0, .slice a n cap] w (ValQ (.int .u32 (wsum z n)) w) := by
  have h := zzsum a n cap 0 z w hE (by omega) hcap (by omega) hz
  have hb := wsum_bd hz
  rwa [show (0 + wsum z n) % 4294967296 = wsum z n from by omega] at h

/-- The data with the checksum c behind. -/
def zc (zs : List Int) (N : Nat) (c : Int) (i : Nat) : Int := if i = N + 1 then c % 256 else if i = N then c / 256 else at0 zs i
theorem wsum_zc (zs : List Int) (N : Nat) (c : Int) (hN : N % 2 = 0) : wsum (zc zs N c) (N + 2) = wsum (at0 zs) N + c := by
  obtain ⟨q, rfl⟩ : ∃ q, N = 2 * q := ⟨N / 2, by omega⟩
  have e0 : zc zs (2 * q) c (2 * q) = c / 256 := by unfold zc; rw [if_neg (by omega), if_pos rfl]
  have e1 : zc zs (2 * q) c (2 * q + 1) = c % 256 := by unfold zc; rw [if_pos rfl]
  rw [wsum_two, e0, e1, wsum_congr (z := zc zs (2 * q) c) (z' := at0 zs) (m := 2 * q) (fun i hi => by unfold zc; rw [if_neg (by omega), if_neg (by omega)])]
  omega
theorem at0_out (zs : List Int) (i : Nat) (h : zs.length ≤ i) : at0 zs i = 0 := by simp [at0, h]
theorem cp_at0 (zs : List Int) (i : Nat) : cp .u8 zs zs.length i = .int .u8 (at0 zs i) := by
  unfold cp
  by_cases h : i < zs.length
  · rw [if_pos h]; rfl
  · rw [if_neg h, at0_out zs i (by omega)]

set_option maxRecDepth 100000 in
set_option maxHeartbeats 4000000 in
theorem law6 (a : Option Addr) (cap : Nat) (zs : List Int) (w : World) (hE : Elems .u8 w a zs) (hn : zs.length ≤ 9223372036854775807) (hnil : a = none → zs = []) (hr : ∀ i, 0 ≤ zs.getD i 0 ∧ zs.getD i 0 ≤ 255) :
    Calls Try.prog 6 #[.slice a zs.length cap] w (ValQ (.bool true) w) := by
  have Hnil : Hid (a = none → zs = []) := hnil
  have HR : Hid (∀ i, 0 ≤ at0 zs i ∧ at0 zs i ≤ 255) := hr
  clear hnil hr
  go_enter Try.func6, Try.ntmps6
  go_wp2_with fail
  refine (bytes12 _ _ _ _ hn).mono ?_
  rintro e w1 ⟨c, rfl, rfl⟩
  cases c
  · go_wp2
    go_ret
    exact ⟨rfl, Below.refl _ _⟩
  · by_cases h1 : zs.length ≤ 65536
    · go_wp2_with fail
      refine (cloneB _ _ zs _ hE (by omega) Hnil.out).mono ?_
      rintro e w1 ⟨a', cap', rfl, hE1, -, hcp, hB1⟩
      clear hE Hnil
      cases hodd : ((zs.length : Int) % 2 == 1)
      · have hev : zs.length % 2 = 0 := by have : ¬ ((zs.length : Int) % 2 = 1) := by simpa using hodd
                                           omega
        have HEV : Hid (zs.length % 2 = 0) := hev
        clear hev
        have hNle : zs.length ≤ zs.length := Nat.le_refl _
        have hNlt : zs.length ≤ 65537 := by omega
        have hmk := make23 (zs.length + 2) (by omega)
        have e2 : ((zs.length + 2 : Nat) : Int) = (zs.length : Int) + 2 := by omega
        rw [e2] at hmk
        clear e2
        go_wp2
        clear hmk
        go_loopw [5] (fun i wr => ∃ m : Nat, m ≤ zs.length ∧ i = .int .i64 m ∧ Arr wr w1.heap.size (zs.length + 2) (cp .u8 zs m) ∧ Below w1.heap.size w1 wr) (fun i _ => zs.length - (intOf i).toNat)
        case atStart => exact ⟨0, Nat.zero_le _, rfl, (made_arr w1 _ _ _).congr (fun i _ => by simp [cp]), (Below.refl _ _).alloc (Nat.le_refl _) _⟩
        case round =>
          obtain ⟨m, hm, rfl, hA, hB⟩ := hrel
          by_cases hlt : m < zs.length
          · obtain ⟨b, off, rfl, hc⟩ := hE1.at (by omega)
            have hbl := block_lt_of_cell (hc m hlt)
            have hcm : wr.cell? ⟨b, off + m, none⟩ = some (.int .u8 (zs.getD m 0)) := (hB.cell (p := ⟨b, off + m, none⟩) hbl).trans (hc m hlt)
            have hcd := hA.cell m (by omega)
            have hfd := hA.free m
            clear hc
            go_wp2
            go_roundw
            case rel => exact ⟨m + 1, by omega, by go_num, (hA.set m (by omega) _).congr (fun i _ => cp_step' _ _ _ _ hlt), hB.setCell (Nat.le_refl _) _⟩
            case measure => simp [intOf]; omega
          · obtain rfl : m = zs.length := by omega
            have hA1 : Arr wr w1.heap.size (zs.length + 2) (fun i => .int .u8 (at0 zs i)) := hA.congr (fun i _ => cp_at0 zs i)
            have HSB := wsum_bd (z := at0 zs) (m := zs.length) (fun i _ => HR.out i)
            clear hA
            go_wp2_with fail
            refine (zzsum0 _ _ _ (at0 zs) _ (.inr ⟨_, _, rfl, fun i hi => by rw [Nat.zero_add]; exact hA1.cell i (by omega)⟩) (by omega) (by omega) (fun i _ => HR.out i)).mono ?_
            rintro e w2 ⟨rfl, hb2⟩
            have hA2 := hA1.below hb2 hA1.lt
            have hB2 : Below w1.heap.size w1 w2 := hB.trans (hb2.mono hB.size)
            clear hA1 hB hb2
            generalize hS : wsum (at0 zs) zs.length = S at *
            have HS : Hid (wsum (at0 zs) zs.length = S) := hS
            clear hS
            go_wp2_with fail
            refine (zzcheck S _ (by omega)).mono ?_
            rintro e w3 ⟨r, rfl, hf, rfl⟩
            have HF : Hid (IsFold S r) := hf
            have hr0 : 0 ≤ r := hf.1
            have hr1 : r ≤ 65535 := hf.2.1
            clear hf
            obtain ⟨c, hc⟩ : ∃ c, 65535 - r = c := ⟨_, rfl⟩
            rw [hc]
            have hc0 : 0 ≤ c := by omega
            have hc1 : c ≤ 65535 := by omega
            have HC : Hid (65535 - r = c) := hc
            clear hc hr0 hr1
            have d0 := hA2.cell zs.length (by omega)
            have d1 := hA2.cell (zs.length + 1) (by omega)
            have f0 := hA2.free zs.length
            have f1 := hA2.free (zs.length + 1)
            have hA3 : Arr ((w2.setCell ⟨w1.heap.size, zs.length, none⟩ (.int .u8 (c / 256))).setCell ⟨w1.heap.size, zs.length + 1, none⟩ (.int .u8 (c % 256))) w1.heap.size (zs.length + 2) (fun i => .int .u8 (zc zs zs.length c i)) :=
              ((hA2.set zs.length (by omega) _).set (zs.length + 1) (by omega) _).congr (fun i _ => by
                unfold zc
                by_cases c1 : i = zs.length + 1
                · simp only [if_pos c1]
                · by_cases c2 : i = zs.length
                  · simp only [if_neg c1, if_pos c2]
                  · simp only [if_neg c1, if_neg c2])
            have hB3 : Below w1.heap.size w1 ((w2.setCell ⟨w1.heap.size, zs.length, none⟩ (.int .u8 (c / 256))).setCell ⟨w1.heap.size, zs.length + 1, none⟩ (.int .u8 (c % 256))) := (hB2.setCell (Nat.le_refl _) _).setCell (Nat.le_refl _) _
            have HA3 : Hid (Arr ((w2.setCell ⟨w1.heap.size, zs.length, none⟩ (.int .u8 (c / 256))).setCell ⟨w1.heap.size, zs.length + 1, none⟩ (.int .u8 (c % 256))) w1.heap.size (zs.length + 2) (fun i => .int .u8 (zc zs zs.length c i))) := hA3
            have HB3 : Hid (Below w1.heap.size w1 ((w2.setCell ⟨w1.heap.size, zs.length, none⟩ (.int .u8 (c / 256))).setCell ⟨w1.heap.size, zs.length + 1, none⟩ (.int .u8 (c % 256)))) := hB3
            have HZC : Hid (∀ i, i < zs.length + 2 → 0 ≤ zc zs zs.length c i ∧ zc zs zs.length c i ≤ 255) := fun i _ => by
              unfold zc
              have := HR.out i
              by_cases c1 : i = zs.length + 1
              · simp only [if_pos c1]; omega
              · by_cases c2 : i = zs.length
                · simp only [if_neg c1, if_pos c2]; omega
                · simp only [if_neg c1, if_neg c2]; exact this
            clear hA3 hB3 hA2 hB2
            go_wp2_with fail
            refine (zzsum0 _ _ _ (zc zs zs.length c) _ (.inr ⟨_, _, rfl, fun i hi => by rw [Nat.zero_add]; exact HA3.out.cell i hi⟩) (by omega) (Nat.le_refl _) HZC.out).mono ?_
            rintro e w4 ⟨rfl, hb4⟩
            rw [wsum_zc zs zs.length c HEV.out, HS.out]
            go_wp2_with fail
            refine (zzcheck (S + c) _ (by omega)).mono ?_
            rintro e w5 ⟨r2, rfl, hf2, rfl⟩
            have hr2 : r2 = 65535 := fold_checked S r r2 (by omega) HF.out (by rw [HC.out]; exact hf2)
            rw [hr2]
            clear hf2 hr2
            go_wp2
            go_ret
            exact ⟨rfl, hB1.trans ((HB3.out.trans (hb4.mono HB3.out.size)).mono hB1.size)⟩
      · have hev : zs.length % 2 = 1 := by have : (zs.length : Int) % 2 = 1 := by simpa using hodd
                                           omega
        obtain ⟨N, hN⟩ : ∃ N : Nat, (zs.length : Int) + 1 = (N : Int) := ⟨zs.length + 1, by omega⟩
        have HEV : Hid (N % 2 = 0) := by show _ = _; omega
        clear hev
        have hNle : zs.length ≤ N := by omega
        have hNlt : N ≤ 65537 := by omega
        have hmk := make23 (N + 2) (by omega)
        have e2 : ((N + 2 : Nat) : Int) = (N : Int) + 2 := by omega
        rw [e2] at hmk
        clear e2
        go_wp2
        clear hmk
        go_loopw [5] (fun i wr => ∃ m : Nat, m ≤ zs.length ∧ i = .int .i64 m ∧ Arr wr w1.heap.size (N + 2) (cp .u8 zs m) ∧ Below w1.heap.size w1 wr) (fun i _ => zs.length - (intOf i).toNat)
        case atStart => exact ⟨0, Nat.zero_le _, rfl, (made_arr w1 _ _ _).congr (fun i _ => by simp [cp]), (Below.refl _ _).alloc (Nat.le_refl _) _⟩
        case round =>
          obtain ⟨m, hm, rfl, hA, hB⟩ := hrel
          by_cases hlt : m < zs.length
          · obtain ⟨b, off, rfl, hc⟩ := hE1.at (by omega)
            have hbl := block_lt_of_cell (hc m hlt)
            have hcm : wr.cell? ⟨b, off + m, none⟩ = some (.int .u8 (zs.getD m 0)) := (hB.cell (p := ⟨b, off + m, none⟩) hbl).trans (hc m hlt)
            have hcd := hA.cell m (by omega)
            have hfd := hA.free m
            clear hc
            go_wp2
            go_roundw
            case rel => exact ⟨m + 1, by omega, by go_num, (hA.set m (by omega) _).congr (fun i _ => cp_step' _ _ _ _ hlt), hB.setCell (Nat.le_refl _) _⟩
            case measure => simp [intOf]; omega
          · obtain rfl : m = zs.length := by omega
            have hA1 : Arr wr w1.heap.size (N + 2) (fun i => .int .u8 (at0 zs i)) := hA.congr (fun i _ => cp_at0 zs i)
            have HSB := wsum_bd (z := at0 zs) (m := N) (fun i _ => HR.out i)
            clear hA
            go_wp2_with fail
            refine (zzsum0 _ _ _ (at0 zs) _ (.inr ⟨_, _, rfl, fun i hi => by rw [Nat.zero_add]; exact hA1.cell i (by omega)⟩) (by omega) (by omega) (fun i _ => HR.out i)).mono ?_
            rintro e w2 ⟨rfl, hb2⟩
            have hA2 := hA1.below hb2 hA1.lt
            have hB2 : Below w1.heap.size w1 w2 := hB.trans (hb2.mono hB.size)
            clear hA1 hB hb2
            generalize hS : wsum (at0 zs) N = S at *
            have HS : Hid (wsum (at0 zs) N = S) := hS
            clear hS
            go_wp2_with fail
            refine (zzcheck S _ (by omega)).mono ?_
            rintro e w3 ⟨r, rfl, hf, rfl⟩
            have HF : Hid (IsFold S r) := hf
            have hr0 : 0 ≤ r := hf.1
            have hr1 : r ≤ 65535 := hf.2.1
            clear hf
            obtain ⟨c, hc⟩ : ∃ c, 65535 - r = c := ⟨_, rfl⟩
            rw [hc]
            have hc0 : 0 ≤ c := by omega
            have hc1 : c ≤ 65535 := by omega
            have HC : Hid (65535 - r = c) := hc
            clear hc hr0 hr1
            have d0 := hA2.cell N (by omega)
            have d1 := hA2.cell (N + 1) (by omega)
            have f0 := hA2.free N
            have f1 := hA2.free (N + 1)
            have hA3 : Arr ((w2.setCell ⟨w1.heap.size, N, none⟩ (.int .u8 (c / 256))).setCell ⟨w1.heap.size, N + 1, none⟩ (.int .u8 (c % 256))) w1.heap.size (N + 2) (fun i => .int .u8 (zc zs N c i)) :=
              ((hA2.set N (by omega) _).set (N + 1) (by omega) _).congr (fun i _ => by
                unfold zc
                by_cases c1 : i = N + 1
                · simp only [if_pos c1]
                · by_cases c2 : i = N
                  · simp only [if_neg c1, if_pos c2]
                  · simp only [if_neg c1, if_neg c2])
            have hB3 : Below w1.heap.size w1 ((w2.setCell ⟨w1.heap.size, N, none⟩ (.int .u8 (c / 256))).setCell ⟨w1.heap.size, N + 1, none⟩ (.int .u8 (c % 256))) := (hB2.setCell (Nat.le_refl _) _).setCell (Nat.le_refl _) _
            have HA3 : Hid (Arr ((w2.setCell ⟨w1.heap.size, N, none⟩ (.int .u8 (c / 256))).setCell ⟨w1.heap.size, N + 1, none⟩ (.int .u8 (c % 256))) w1.heap.size (N + 2) (fun i => .int .u8 (zc zs N c i))) := hA3
            have HB3 : Hid (Below w1.heap.size w1 ((w2.setCell ⟨w1.heap.size, N, none⟩ (.int .u8 (c / 256))).setCell ⟨w1.heap.size, N + 1, none⟩ (.int .u8 (c % 256)))) := hB3
            have HZC : Hid (∀ i, i < N + 2 → 0 ≤ zc zs N c i ∧ zc zs N c i ≤ 255) := fun i _ => by
              unfold zc
              have := HR.out i
              by_cases c1 : i = N + 1
              · simp only [if_pos c1]; omega
              · by_cases c2 : i = N
                · simp only [if_neg c1, if_pos c2]; omega
                · simp only [if_neg c1, if_neg c2]; exact this
            clear hA3 hB3 hA2 hB2
            go_wp2_with fail
            refine (zzsum0 _ _ _ (zc zs N c) _ (.inr ⟨_, _, rfl, fun i hi => by rw [Nat.zero_add]; exact HA3.out.cell i hi⟩) (by omega) (Nat.le_refl _) HZC.out).mono ?_
            rintro e w4 ⟨rfl, hb4⟩
            rw [wsum_zc zs N c HEV.out, HS.out]
            go_wp2_with fail
            refine (zzcheck (S + c) _ (by omega)).mono ?_
            rintro e w5 ⟨r2, rfl, hf2, rfl⟩
            have hr2 : r2 = 65535 := fold_checked S r r2 (by omega) HF.out (by rw [HC.out]; exact hf2)
            rw [hr2]
            clear hf2 hr2
            go_wp2
            go_ret
            exact ⟨rfl, hB1.trans ((HB3.out.trans (hb4.mono HB3.out.size)).mono hB1.size)⟩
    · go_wp2
      go_ret
      exact ⟨rfl, Below.refl _ _⟩
end Go.Proofs.Qxb6601627a
