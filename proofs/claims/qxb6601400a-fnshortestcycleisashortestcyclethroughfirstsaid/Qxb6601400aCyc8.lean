import Derived.Test.Qxb6601400aCyc5
import Derived.Test.Qxb6601400aCyc7
namespace Go.Proofs.Qxb6601400a
open Go.RowKit

set_option maxHeartbeats 400000 in
theorem zzShortest (a a2 : Option Addr) (cap cap2 : Nat) (gs : List Int) (rs : List (List Int)) (w : World) (h : Calls Try.prog 25 #[.slice a gs.length cap, .slice a2 rs.length cap2] w (CycQ rs gs w)) :
    Calls Try.prog 18 #[.slice a gs.length cap, .slice a2 rs.length cap2] w (CycQ rs gs w) := by
  have H : Hid (Calls Try.prog 25 #[.slice a gs.length cap, .slice a2 rs.length cap2] w (CycQ rs gs w)) := h
  clear h
  go_enter Try.func18, Try.ntmps18
  go_wp2_with fail
  refine H.out.mono ?_
  rintro e w1 ⟨ao, c, ps, D, rfl, hE, hC, hB⟩
  have HC : Hid (Cycle rs gs (gs.getD 0 0) ps D) := hC
  clear hC H
  go_wp2
  go_ret
  exact ⟨ao, c, ps, D, rfl, hE, HC.out, hB⟩

/-- Which parts of a path were met in its places 1 to k - 1. -/
def seenC (ps : List Int) : Nat → Nat → Bool
  | 0, _ => false
  | k + 1, j => if k = 0 then false else decide (ps.getD k 0 = (j : Int)) || seenC ps k j
theorem seenC_one (ps : List Int) (j : Nat) : seenC ps 1 j = false := rfl
theorem seenC_step (ps : List Int) (k : Nat) (hk : 1 ≤ k) (v : Nat) (hv : ps.getD k 0 = (v : Int)) (j : Nat) : (if j = v then Value.bool true else .bool (seenC ps k j)) = .bool (seenC ps (k + 1) j) := by
  have e : seenC ps (k + 1) j = (decide (ps.getD k 0 = (j : Int)) || seenC ps k j) := by rw [seenC, if_neg (by omega)]
  rw [e, hv]
  by_cases c : j = v
  · subst c; simp
  · have : ¬ ((v : Int) = (j : Int)) := by omega
    simp [c, this]
theorem seenC_some (ps : List Int) : ∀ (k j : Nat), seenC ps k j = true → ∃ i, 1 ≤ i ∧ i < k ∧ ps.getD i 0 = (j : Int)
  | 0, _, h => by cases h
  | k + 1, j, h => by
    rw [seenC] at h
    by_cases e : k = 0
    · rw [if_pos e] at h; cases h
    · rw [if_neg e, Bool.or_eq_true, decide_eq_true_eq] at h
      rcases h with h | h
      · exact ⟨k, by omega, by omega, h⟩
      · obtain ⟨i, h1, h2, h3⟩ := seenC_some ps k j h
        exact ⟨i, h1, by omega, h3⟩

theorem zzHasS (a : Option Addr) (cap : Nat) (row : List Int) (x : Int) (w : World) (hE : Elems .i64 w a row) (hn : row.length ≤ 9223372036854775807) (hx : x ∈ row) :
    Calls Try.prog 20 #[.slice a row.length cap, .int .i64 x] w fun e w' => e = .returned (.bool true) ∧ w' = w :=
  (zzHas a cap row x w hE hn).mono (fun e w' h => ⟨by rw [h.1, show row.contains x = true from by simpa using hx], h.2.symm⟩)

set_option maxRecDepth 100000 in
set_option maxHeartbeats 8000000 in
theorem law5 (a a2 : Option Addr) (cap cap2 : Nat) (gs : List Int) (rs : List (List Int)) (w : World) (hE : Elems .i64 w a gs) (hR : Rows w a2 rs) (hgl : gs.length ≤ 9223372036854775807) (hrl : rs.length ≤ 9223372036854775807)
    (hnilG : a = none → gs = []) (hnilR : a2 = none → rs = []) (hrow : ∀ k, (rs.getD k []).length ≤ 9223372036854775807)
    (hrng : ∀ k i, -9223372036854775808 ≤ (rs.getD k []).getD i 0 ∧ (rs.getD k []).getD i 0 ≤ 9223372036854775807) :
    Calls Try.prog 5 #[.slice a gs.length cap, .slice a2 rs.length cap2] w (LawQ w) := by
  have HNG : Hid (a = none → gs = []) := hnilG
  have HNR : Hid (a2 = none → rs = []) := hnilR
  have HROW : Hid (∀ k, (rs.getD k []).length ≤ 9223372036854775807) := hrow
  have HRNG : Hid (∀ k i, -9223372036854775808 ≤ (rs.getD k []).getD i 0 ∧ (rs.getD k []).getD i 0 ≤ 9223372036854775807) := hrng
  clear hnilG hnilR hrow hrng
  go_enter Try.func5, Try.ntmps5
  go_wp2_with fail
  refine (bytes13 _ _ _ _ _ rs _ hR hgl hrl HROW.out).mono ?_
  rintro e w1 ⟨c, rfl, rfl⟩
  cases c
  · go_wp2
    go_ret
    exact ⟨rfl, Below.refl _ _⟩
  · go_wp2_with fail
    refine (size14 _ _ _ _ _ rs _ hR hgl hrl HROW.out).mono ?_
    rintro e w1 ⟨c, rfl, hsz, rfl⟩
    have HSZ : Hid (c = true → gs.length ≤ 4096 ∧ rs.length ≤ 65536 ∧ ∀ k, k < rs.length → (rs.getD k []).length ≤ 131072) := hsz
    clear hsz
    cases c
    · go_wp2
      go_ret
      exact ⟨rfl, Below.refl _ _⟩
    · obtain ⟨hg1, hr1, hrw⟩ := HSZ.out rfl
      have HRW : Hid (∀ k, k < rs.length → (rs.getD k []).length ≤ 131072) := hrw
      clear HSZ hrw
      go_wp2_with fail
      refine (dom15 _ _ _ _ _ gs _ hE hg1 hr1).mono ?_
      rintro e w1 ⟨c, rfl, hdm, hB1⟩
      have HDM : Hid (c = true → 0 < gs.length ∧ (∀ i, i < gs.length → 0 ≤ gs.getD i 0 ∧ gs.getD i 0 < (rs.length : Int)) ∧ ∀ i j, i ≤ j → j < gs.length → gs.getD i 0 ≤ gs.getD j 0) := hdm
      clear hdm
      cases c
      · go_wp2
        go_ret
        exact ⟨rfl, hB1⟩
      · obtain ⟨hg0, hgr, hasc⟩ := HDM.out rfl
        have HGR : Hid (∀ i, i < gs.length → 0 ≤ gs.getD i 0 ∧ gs.getD i 0 < (rs.length : Int)) := hgr
        have HASC : Hid (∀ i j, i ≤ j → j < gs.length → gs.getD i 0 ≤ gs.getD j 0) := hasc
        clear HDM hgr hasc
        go_wp2_with fail
        refine (cloneInts _ _ gs _ (hE.below hB1 (Nat.le_refl _)) (by omega) HNG.out).mono ?_
        rintro e w2 ⟨aG, cG, rfl, hE2, -, hB2⟩
        have hR2 := (hR.below hB1 (Nat.le_refl _)).below hB2 (Nat.le_refl _)
        clear hE hR HNG
        go_wp2_with fail
        refine (cloneRows _ _ rs _ hR2 hr1 HNR.out HRW.out).mono ?_
        rintro e w3 ⟨aR, cR, rfl, hR3, hB3⟩
        have hE3 := hE2.below hB3 (Nat.le_refl _)
        clear hR2 hE2 HNR
        go_wp2_with fail
        refine (cycleLen _ _ _ _ gs rs _ hE3 hR3 hg1 hr1 hg0 HGR.out HRW.out).mono ?_
        rintro e w4 ⟨best, rfl, hbest, hbl, hbh, hB4⟩
        have HBEST : Hid (BestLen rs gs (gs.getD 0 0) best) := hbest
        have HBW : Hid (Below w.heap.size w w4) := ((hB1.trans (hB2.mono hB1.size)).trans (hB3.mono (Nat.le_trans hB1.size hB2.size))).trans (hB4.mono (Nat.le_trans hB1.size (Nat.le_trans hB2.size hB3.size)))
        have hE4 := hE3.below hB4 (Nat.le_refl _)
        have hR4 := hR3.below hB4 (Nat.le_refl _)
        clear hbest hB1 hB2 hB3 hB4 hE3 hR3
        by_cases hneg : best < 0
        · go_wp2
          go_ret
          exact ⟨rfl, HBW.out⟩
        · have hex : ∃ d v, Walk rs gs (gs.getD 0 0) d v ∧ gs.getD 0 0 ∈ rowOf rs v := by
            rcases HBEST.out.1 with h | ⟨d, v, _, h2, h3⟩
            · omega
            · exact ⟨d, v, h2, h3⟩
          have HEX : Hid (∃ d v, Walk rs gs (gs.getD 0 0) d v ∧ gs.getD 0 0 ∈ rowOf rs v) := hex
          clear hex
          go_wp2_with fail
          refine (zzShortest _ _ _ _ gs rs _ (shortest _ _ _ _ gs rs _ hE4 hR4 hg1 hr1 hg0 HGR.out HASC.out HRW.out HRNG.out HEX.out)).mono ?_
          rintro e w5 ⟨aP, cP, ps, D, rfl, hP, hcyc, hB5⟩
          have hbD : best = (D : Int) + 1 := by
            have h1 := (HBEST.out.2 D (ps.getD D 0) (by have := hcyc.small; omega) hcyc.walk (by have := hcyc.edge D (Nat.le_refl _); rwa [hcyc.last] at this)).2
            rcases HBEST.out.1 with h | ⟨d, v, h2, h3, h4⟩
            · omega
            · have := hcyc.least d v h3 h4; omega
          have HCYC : Hid (Cycle rs gs (gs.getD 0 0) ps D) := hcyc
          have hDs : D < gs.length := hcyc.small
          have hpl : ps.length = D + 2 := hcyc.len
          have hE5 := hE4.below hB5 (Nat.le_refl _)
          have hR5 := hR4.below hB5 (Nat.le_refl _)
          have HBW5 : Hid (Below w.heap.size w w5) := HBW.out.trans (hB5.mono HBW.out.size)
          obtain ⟨M, hM⟩ : ∃ M : Nat, best = (M : Int) := ⟨D + 1, by omega⟩
          have hMD : M = D + 1 := by omega
          have hpM : ps.length = M + 1 := by omega
          subst hM
          obtain ⟨fst, hfst⟩ : ∃ fst, fst = gs.getD 0 0 := ⟨_, rfl⟩
          obtain ⟨bG, oG, rfl, hcG⟩ := hE5.at hg0
          have hcf : w5.cell? ⟨bG, oG, none⟩ = some (.int .i64 fst) := by have := hcG 0 hg0; rw [← hfst] at this; simpa using this
          obtain ⟨bP, oP, rfl, hcP⟩ := hP.at (by omega)
          have hp0 : w5.cell? ⟨bP, oP, none⟩ = some (.int .i64 fst) := by have := hcP 0 (by omega); rw [hcyc.head, ← hfst] at this; simpa using this
          have hpm : w5.cell? ⟨bP, oP + M, none⟩ = some (.int .i64 fst) := by have := hcP M (by omega); rw [hMD, hcyc.last, ← hfst] at this; rw [hMD]; exact this
          have HPC : Hid (∀ i, i < ps.length → w5.cell? ⟨bP, oP + i, none⟩ = some (.int .i64 (ps.getD i 0))) := hcP
          have HPM : Hid (ps.length = M + 1) := hpM
          have HMD : Hid (M = D + 1) := hMD
          have HFST : Hid (fst = gs.getD 0 0) := hfst
          have hlen : ((ps.length : Int) != (M : Int) + 1) = false := by rw [hpM]; simp
          have hMl : M ≤ 4096 := by omega
          have hMpos : 1 ≤ M := by omega
          have hpll : M < ps.length := by omega
          clear hbD hcyc hpl hMD hpM hfst hcG hcP hE4 hR4 hB5 HBEST HEX hneg hbl hbh hP
          go_wp2_with fail
          refine (zzMarks _ _ gs rs.length _ hE5 (by omega) (by omega) HGR.out).mono ?_
          rintro e w6 ⟨g6, rfl, hMk, hB6⟩
          have hmk := make35 rs.length (by omega)
          have HE5 : Hid (Elems .i64 w5 (some ⟨bG, oG, none⟩) gs) := hE5
          clear hE5 hcf hp0 hpm hlen
          go_wp2
          clear hmk
          have HVR : Hid (∀ k, k ≤ D → 0 ≤ ps.getD k 0 ∧ ps.getD k 0 < (rs.length : Int)) := fun k hk => by
            obtain ⟨i, hi, hiv⟩ := List.mem_iff_getElem.1 (HCYC.out.grp k hk)
            have := HGR.out i hi
            rw [getD_get _ _ hi, hiv] at this
            exact this
          go_loopw [11] (fun kv wr => ∃ k : Nat, 1 ≤ k ∧ k ≤ M ∧ kv = .int .i64 k ∧ Arr wr w6.heap.size rs.length (fun j => .bool (seenC ps k j)) ∧ Below w6.heap.size w6 wr) (fun kv _ => M - (intOf kv).toNat)
          case atStart => exact ⟨1, by omega, by omega, rfl, (made_arr w6 _ _ _).congr (fun j _ => by rw [seenC_one]), (Below.refl _ _).alloc (Nat.le_refl _) _⟩
          case round =>
            obtain ⟨k, hk1, hkM, rfl, hA, hB⟩ := hrel
            have hB56 : Below w5.heap.size w5 wr := hB6.trans (hB.mono hB6.size)
            by_cases hlt : k < M
            · have hkD : k ≤ D := by have := HMD.out; omega
              have hvr := HVR.out k hkD
              obtain ⟨v, hv⟩ : ∃ v : Nat, ps.getD k 0 = (v : Int) := ⟨(ps.getD k 0).toNat, by omega⟩
              have hvn : v < rs.length := by omega
              have hcv : wr.cell? ⟨bP, oP + k, none⟩ = some (.int .i64 (v : Int)) := by
                have h0 := HPC.out k (by omega)
                rw [← hv]
                exact (hB56.cell (p := ⟨bP, oP + k, none⟩) (block_lt_of_cell h0)).trans h0
              have hvg : gs.contains (v : Int) = true := by
                have := HCYC.out.grp k hkD
                rw [hv] at this
                simpa using this
              have hmv : wr.cell? ⟨g6, v, none⟩ = some (.bool true) := by
                rw [← hvg]
                exact (hB.cell (p := ⟨g6, v, none⟩) hMk.lt).trans (hMk.cell v hvn)
              have hvf : ((v : Int) == fst) = false := by
                rw [beq_eq_false_iff_ne, ← hv, HFST.out]
                exact HCYC.out.ne k hk1 hkD
              have hsn : seenC ps k v = false := by
                cases hs : seenC ps k v
                · rfl
                · obtain ⟨i, a1, a2, a3⟩ := seenC_some ps k v hs
                  exact absurd (a3.trans hv.symm) (HCYC.out.apart i k a1 a2 hkD)
              have hsc := hA.cell v hvn
              have hsf := hA.free v
              rw [hsn] at hsc
              have HV : Hid (ps.getD k 0 = (v : Int)) := hv
              clear hv hvg hsn hvr
              go_wp2
              go_roundw
              case rel => exact ⟨k + 1, by omega, by omega, by go_num, (hA.set v hvn _).congr (fun j _ => seenC_step ps k hk1 v HV.out j), hB.setCell (Nat.le_refl _) _⟩
              case measure => simp [intOf]; omega
            · obtain rfl : k = M := by omega
              have HB56 : Hid (Below w5.heap.size w5 wr) := hB56
              clear hA hB hB56 hMk hB6
              go_wp2
              go_loopw [13] (fun kv wr => ∃ q : Nat, q ≤ k ∧ kv = .int .i64 q ∧ Below w5.heap.size w5 wr) (fun kv _ => k - (intOf kv).toNat)
              case atStart => exact ⟨0, by omega, rfl, HB56.out⟩
              case round =>
                clear HB56
                obtain ⟨q, hq, rfl, hB⟩ := hrel
                by_cases hql : q < k
                · have hqD : q ≤ D := by have := HMD.out; omega
                  have hvr := HVR.out q hqD
                  obtain ⟨v, hv⟩ : ∃ v : Nat, ps.getD q 0 = (v : Int) := ⟨(ps.getD q 0).toNat, by omega⟩
                  have hvn : v < rs.length := by omega
                  have hcv : wr.cell? ⟨bP, oP + q, none⟩ = some (.int .i64 (v : Int)) := by
                    have h0 := HPC.out q (by omega)
                    rw [← hv]
                    exact (hB.cell (p := ⟨bP, oP + q, none⟩) (block_lt_of_cell h0)).trans h0
                  obtain ⟨y, hy⟩ : ∃ y, y = ps.getD (q + 1) 0 := ⟨_, rfl⟩
                  have hcy : wr.cell? ⟨bP, oP + (q + 1), none⟩ = some (.int .i64 y) := by
                    have h0 := HPC.out (q + 1) (by omega)
                    rw [hy]
                    exact (hB.cell (p := ⟨bP, oP + (q + 1), none⟩) (block_lt_of_cell h0)).trans h0
                  obtain ⟨b2, off2, rfl, hcr⟩ := hR5.at (by omega)
                  obtain ⟨ak, ck, hck, hEk, -⟩ := hcr v hvn
                  have hckw : wr.cell? ⟨b2, off2 + v, none⟩ = some (.slice ak (rs.getD v []).length ck) := (hB.cell (p := ⟨b2, off2 + v, none⟩) (block_lt_of_cell hck)).trans hck
                  have hrl2 := HRW.out v hvn
                  have hym : y ∈ rs.getD v [] := by
                    have := HCYC.out.edge q hqD
                    rw [hv, ← hy] at this
                    simpa [rowOf] using this
                  obtain ⟨row, hrow⟩ : ∃ row, row = rs.getD v [] := ⟨_, rfl⟩
                  rw [← hrow] at hckw hrl2 hEk hym
                  have hEw := hEk.below hB (Nat.le_refl _)
                  have HY : Hid (y ∈ row) := hym
                  have hq1 : q + 1 < ps.length := by omega
                  have hq1i : (q : Int) + 1 < (ps.length : Int) := by omega
                  have hq0i : (q : Int) < (ps.length : Int) := by omega
                  clear hrow hcr hck hEk hym hy hv hvr
                  go_wp2
                  go_quiet ((go_at_call 20; exact Calls.quiet_of_same (zzHasS _ _ row y _ hEw (by omega) HY.out)))
                  go_wp2
                  go_roundw
                  case rel => exact ⟨q + 1, by omega, by go_num, belowN hB _⟩
                  case measure => simp [intOf]; omega
                · go_wp2
                  go_ret
                  exact ⟨rfl, HBW5.out.trans (hB.mono HBW5.out.size)⟩
end Go.Proofs.Qxb6601400a
