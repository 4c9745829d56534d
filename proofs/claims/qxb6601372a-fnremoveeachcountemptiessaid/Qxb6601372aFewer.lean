import Derived.Test.Qxb6601372aPlain
import Derived.Deep.QuietTactic
import Derived.BigQuiet
namespace Go.Proofs.Qxb6601372a
open Go.RowKit

def BytesQ (w : World) (a b : Nat) (e : Ending) (w' : World) : Prop := ∃ c, e = .returned (.bool c) ∧ (c = true → a + b ≤ 1048576) ∧ w = w'

set_option maxHeartbeats 400000 in
theorem bytes21 (a a2 : Option Addr) (n n2 cap cap2 : Nat) (mode : Int) (w : World) (h : n ≤ 9223372036854775807) (h2 : n2 ≤ 9223372036854775807) :
    Calls Try.prog 21 #[.slice a n cap, .slice a2 n2 cap2, .int .i8 mode] w (BytesQ w n n2) := by
  by_cases c1 : n ≤ 1048576
  · by_cases c2 : n2 ≤ 1048576
    · by_cases c3 : n + n2 ≤ 1048576
      · go_enter Try.func21, Try.ntmps21
        go_wp2
        go_ret
        exact ⟨true, rfl, fun _ => c3, rfl⟩
      · go_enter Try.func21, Try.ntmps21
        go_wp2
        go_ret
        exact ⟨false, rfl, (fun h => by cases h), rfl⟩
    · go_enter Try.func21, Try.ntmps21
      go_wp2
      go_ret
      exact ⟨false, rfl, (fun h => by cases h), rfl⟩
  · go_enter Try.func21, Try.ntmps21
    go_wp2
    go_ret
    exact ⟨false, rfl, (fun h => by cases h), rfl⟩

/-- The law's three tables. -/
structure Tabs (w4 wr : World) (f g : Nat → Int) (s : Nat → Bool) : Prop where
  a : Arr wr w4.heap.size 256 (fun j => .int .i64 (f j))
  b : Arr wr (w4.heap.size + 1) 256 (fun j => .int .i64 (g j))
  c : Arr wr (w4.heap.size + 1 + 1) 256 (fun j => .bool (s j))
  bel : Below w4.heap.size w4 wr

theorem Tabs.start (w : World) : Tabs w (((w.alloc (.cells zi256 44)).alloc (.cells zi256 44)).alloc (.cells zb256 45)) (fun _ => 0) (fun _ => 0) (fun _ => false) := by
  refine ⟨((zi_arr w).alloc _).alloc _, ?_, ?_, (((Below.refl _ _).alloc (Nat.le_refl _) _).alloc (by simp) _).alloc (by simp; omega) _⟩
  · have h := zi_arr (w.alloc (.cells zi256 44))
    rw [World.size_alloc] at h
    exact h.alloc _
  · have h := zb_arr ((w.alloc (.cells zi256 44)).alloc (.cells zi256 44))
    rw [World.size_alloc, World.size_alloc] at h
    exact h
theorem Tabs.congr {w4 wr : World} {f g : Nat → Int} {s : Nat → Bool} {f' g' : Nat → Int} {s' : Nat → Bool} (h : Tabs w4 wr f g s) (ef : ∀ j, f j = f' j) (eg : ∀ j, g j = g' j) (es : ∀ j, s j = s' j) : Tabs w4 wr f' g' s' :=
  ⟨h.a.congr (fun i _ => by rw [ef]), h.b.congr (fun i _ => by rw [eg]), h.c.congr (fun i _ => by rw [es]), h.bel⟩
theorem Tabs.drew {w4 wr : World} {f g : Nat → Int} {s : Nat → Bool} (h : Tabs w4 wr f g s) : Tabs w4 wr.drew f g s := ⟨h.a.drew, h.b.drew, h.c.drew, h.bel.drew⟩

theorem ite_bef (ms ns : List Int) (m k j : Nat) (hk : ms.getD m 0 + 128 = (k : Int)) : bef ms ns (m + 1) j = if j = k then ns.getD m 0 else bef ms ns m j := by
  rw [bef]
  by_cases c : j = k
  · subst c; rw [if_pos rfl, if_pos hk]
  · rw [if_neg c, if_neg (by omega)]
theorem Tabs.setA {w4 wr : World} {ms ns : List Int} {m : Nat} {g : Nat → Int} {s : Nat → Bool} (h : Tabs w4 wr (bef ms ns m) g s) {k : Nat} (hk : ms.getD m 0 + 128 = (k : Int)) (hk2 : k < 256) {y : Int} (hy : ns.getD m 0 = y) :
    Tabs w4 (wr.setCell ⟨w4.heap.size, k, none⟩ (.int .i64 y)) (bef ms ns (m + 1)) g s := by
  subst hy
  exact ⟨(h.a.set k hk2 _).congr (fun j _ => bef_step ms ns m k hk j), h.b.other (by simp) _, h.c.other (by simp; omega) _, h.bel.setCell (Nat.le_refl _) _⟩
theorem Tabs.setBC {w4 wr : World} {ms ns : List Int} {m : Nat} {f : Nat → Int} (h : Tabs w4 wr f (bef ms ns m) (seenF ms m)) (hm : m < ms.length) {k : Nat} (hk : ms.getD m 0 + 128 = (k : Int)) (hk2 : k < 256) {y : Int} (hy : ns.getD m 0 = y) :
    Tabs w4 ((wr.setCell ⟨w4.heap.size + 1 + 1, k, none⟩ (.bool true)).setCell ⟨w4.heap.size + 1, k, none⟩ (.int .i64 y)) f (bef ms ns (m + 1)) (seenF ms (m + 1)) := by
  subst hy
  exact ⟨(h.a.other (by simp; omega) _).other (by simp) _, ((h.b.other (by simp) _).set k hk2 _).congr (fun j _ => bef_step ms ns m k hk j), ((h.c.set k hk2 _).other (by simp) _).congr (fun j _ => seenF_step ms m hm k hk j), (h.bel.setCell (by simp; omega) _).setCell (by simp) _⟩

theorem seenF_false {ms ns : List Int} {M m k : Nat} (h : WF ms ns M) (hm : m < M) (hM : M ≤ ms.length) (hk : ms.getD m 0 + 128 = (k : Int)) : seenF ms m k = false := by
  cases hs : seenF ms m k
  · rfl
  · obtain ⟨i, hi, x⟩ := (seenF_iff ms m (by omega) k).1 hs
    exact absurd (show ms.getD i 0 = ms.getD m 0 by omega) (h.dist i m hi hm)
theorem bef_bd {ms ns : List Int} (hr : ∀ i, ns.getD i 0 ≤ 2147483647) : ∀ {m : Nat}, WF ms ns m → ∀ k, 0 ≤ bef ms ns m k ∧ bef ms ns m k ≤ 2147483647
  | 0, _, k => by rw [bef]; omega
  | m + 1, h, k => by
    rw [bef]
    split
    · have := hr m; have := h.pos m (by omega); omega
    · exact bef_bd hr ⟨fun i j a b => h.dist i j a (by omega), fun i a => h.pos i (by omega)⟩ k

theorem belowN {B : Nat} {a w : World} (h : Below B a w) (n : Nat) : Below B a (w.drewN n) := ⟨h.os, h.tape, h.output, h.size, h.block⟩

def LawQ (w : World) (e : Ending) (w' : World) : Prop := e = .returned (.bool true) ∧ Below w.heap.size w w'

set_option maxRecDepth 100000 in
set_option maxHeartbeats 4000000 in
theorem fewer (a a2 : Option Addr) (cap cap2 : Nat) (ms ns : List Int) (mode : Int) (w : World) (hM : Elems .i8 w a ms) (hN : Elems .i32 w a2 ns)
    (hm : ms.length ≤ 9223372036854775807) (hn : ns.length ≤ 9223372036854775807) (hnilM : a = none → ms = []) (hnilN : a2 = none → ns = [])
    (hr : ∀ i, -128 ≤ ms.getD i 0 ∧ ms.getD i 0 ≤ 127) (hr2 : ∀ i, -2147483648 ≤ ns.getD i 0 ∧ ns.getD i 0 ≤ 2147483647) (hmode : -128 ≤ mode ∧ mode ≤ 127) :
    Calls Try.prog 7 #[.slice a ms.length cap, .slice a2 ns.length cap2, .int .i8 mode] w (LawQ w) := by
  have HR : Hid (∀ i, -128 ≤ ms.getD i 0 ∧ ms.getD i 0 ≤ 127) := hr
  have HR2 : Hid (∀ i, -2147483648 ≤ ns.getD i 0 ∧ ns.getD i 0 ≤ 2147483647) := hr2
  clear hr hr2
  go_enter Try.func7, Try.ntmps7
  go_wp2_with fail
  refine (bytes21 _ _ _ _ _ _ _ _ hm hn).mono ?_
  rintro e w1 ⟨c, rfl, hc, rfl⟩
  cases c
  · go_wp2
    go_ret
    exact ⟨rfl, Below.refl _ _⟩
  · have hsum := hc rfl
    clear hc
    by_cases h1 : ms.length ≤ 65536
    · by_cases h2 : ns.length ≤ 65536
      · go_wp2_with fail
        refine (wellFormed _ _ _ _ ms ns _ hM hN (by omega) HR.out).mono ?_
        rintro e w1 ⟨c, rfl, hwf, hB1⟩
        cases c
        · go_wp2
          go_ret
          exact ⟨rfl, hB1⟩
        · have hx := hwf rfl
          clear hwf
          obtain ⟨hl, hwf⟩ := hx
          have HL : Hid (ms.length = ns.length) := hl
          have HW : Hid (WF ms ns ms.length) := hwf
          clear hl hwf
          go_wp2_with fail
          refine (clone8 _ _ ms _ (hM.below hB1 (Nat.le_refl _)) (by omega) hnilM).mono ?_
          rintro e w2 ⟨a', cap', rfl, hM2, -, hB2⟩
          go_wp2_with fail
          refine (clone32 _ _ ns _ ((hN.below hB1 (Nat.le_refl _)).below hB2 (Nat.le_refl _)) (by omega) hnilN).mono ?_
          rintro e w3 ⟨a2', cap2', rfl, hN3, -, hB3⟩
          have hM3 := hM2.below hB3 (Nat.le_refl _)
          clear hM2 hM hN hnilM hnilN
          go_wp2_with fail
          refine (zzremove _ _ _ _ ms ns mode _ hM3 hN3 HL.out (by omega) HW.out.pos (fun i => (HR2.out i).2)).mono ?_
          rintro e w4 ⟨ms', ns', aM, aN, cM, cN, hR, rfl, hoM, hoN, hB4⟩
          obtain ⟨km, hkm⟩ : ∃ km : Nat, mode + 128 = (km : Int) := ⟨(mode + 128).toNat, by omega⟩
          have HF : Hid (RmFacts ms ns mode ms' ns' km) := rm_facts HL.out HW.out HR.out HR2.out hkm hR
          have HB : Hid (Below w.heap.size w w4) := ((hB1.trans (hB2.mono hB1.size)).trans (hB3.mono (Nat.le_trans hB1.size hB2.size))).trans (hB4.mono (Nat.le_trans hB1.size (Nat.le_trans hB2.size hB3.size)))
          have hM4 := hM3.below hB4 (Nat.le_refl _)
          have hN4 := hN3.below hB4 (Nat.le_refl _)
          have hle : ms'.length ≤ ms.length := HF.out.le
          have hll : ((ms'.length : Int) != (ns'.length : Int)) = false := by have := HF.out.len; simp; omega
          clear hB1 hB2 hB3 hB4 hM3 hN3 hR
          have z44 := zero44
          have z45 := zero45
          go_wp2
          clear z44 z45
          go_loopw [12] (fun i wr => ∃ m : Nat, m ≤ ms.length ∧ i = .int .i64 m ∧ Tabs w4 wr (bef ms ns m) (fun _ => 0) (fun _ => false)) (fun i _ => ms.length - (intOf i).toNat)
          case atStart => exact ⟨0, Nat.zero_le _, rfl, (Tabs.start w4).congr (fun _ => rfl) (fun _ => rfl) (fun _ => rfl)⟩
          case round =>
            obtain ⟨m, hmm, rfl, hT⟩ := hrel
            by_cases hlt : m < ms.length
            · have hlt2 : m < ns.length := by have := HL.out; omega
              obtain ⟨b, off, rfl, hc⟩ := hM4.at (by omega)
              obtain ⟨b2, off2, rfl, hc2⟩ := hN4.at (by omega)
              have hcm : wr.cell? ⟨b, off + m, none⟩ = some (.int .i8 (ms.getD m 0)) := (hT.bel.cell (p := ⟨b, off + m, none⟩) (block_lt_of_cell (hc m hlt))).trans (hc m hlt)
              have hcn : wr.cell? ⟨b2, off2 + m, none⟩ = some (.int .i32 (ns.getD m 0)) := (hT.bel.cell (p := ⟨b2, off2 + m, none⟩) (block_lt_of_cell (hc2 m hlt2))).trans (hc2 m hlt2)
              clear hc hc2 hM4 hN4 hoM hoN
              have hrm := HR.out m
              have hrn := HR2.out m
              generalize hz : ms.getD m 0 = z at *
              generalize hy : ns.getD m 0 = y at *
              have HZ : Hid (ms.getD m 0 = z) := hz
              have HY : Hid (ns.getD m 0 = y) := hy
              clear hz hy
              obtain ⟨k, hk⟩ : ∃ k : Nat, z + 128 = (k : Int) := ⟨(z + 128).toNat, by omega⟩
              have hk2 : k < 256 := by omega
              have hcd := hT.a.cell k hk2
              have hfd := hT.a.free k
              go_wp2
              go_region
              all_goals go_wp2
              go_roundw
              case rel => exact ⟨m + 1, by omega, by go_num, (hT.setA (by rw [HZ.out]; exact hk) hk2 HY.out).drew⟩
              case measure => simp [intOf]; omega
            · obtain rfl : m = ms.length := by omega
              go_wp2
              go_loopw [13] (fun i wr => ∃ m : Nat, m ≤ ms'.length ∧ i = .int .i64 m ∧ Tabs w4 wr (bef ms ns ms.length) (bef ms' ns' m) (seenF ms' m)) (fun i _ => ms'.length - (intOf i).toNat)
              case atStart => exact ⟨0, Nat.zero_le _, rfl, hT.congr (fun _ => rfl) (fun _ => rfl) (fun _ => by simp [seenF])⟩
              case round =>
                clear hT
                obtain ⟨m, hmm, rfl, hT⟩ := hrel
                by_cases hlt : m < ms'.length
                · have hlt2 : m < ns'.length := by have := HF.out.len; omega
                  obtain ⟨b, off, rfl, hc⟩ := hoM.at (by omega)
                  obtain ⟨b2, off2, rfl, hc2⟩ := hoN.at (by omega)
                  have hcm : wr.cell? ⟨b, off + m, none⟩ = some (.int .i8 (ms'.getD m 0)) := (hT.bel.cell (p := ⟨b, off + m, none⟩) (block_lt_of_cell (hc m hlt))).trans (hc m hlt)
                  have hcn : wr.cell? ⟨b2, off2 + m, none⟩ = some (.int .i32 (ns'.getD m 0)) := (hT.bel.cell (p := ⟨b2, off2 + m, none⟩) (block_lt_of_cell (hc2 m hlt2))).trans (hc2 m hlt2)
                  have hbl : b < w4.heap.size := block_lt_of_cell (hc m hlt)
                  have hbl2 : b2 < w4.heap.size := block_lt_of_cell (hc2 m hlt2)
                  clear hc hc2 hM4 hN4 hoM hoN
                  have hrm := HF.out.rng m
                  have hrn := HF.out.rng2 m
                  have hps := HF.out.wf.pos m hlt
                  obtain ⟨k, hk⟩ : ∃ k : Nat, ms'.getD m 0 + 128 = (k : Int) := ⟨(ms'.getD m 0 + 128).toNat, by omega⟩
                  have hsf := seenF_false HF.out.wf hlt (Nat.le_refl _) hk
                  generalize hz : ms'.getD m 0 = z at *
                  generalize hy : ns'.getD m 0 = y at *
                  have HZ : Hid (ms'.getD m 0 = z) := hz
                  have HY : Hid (ns'.getD m 0 = y) := hy
                  clear hz hy
                  have hk2 : k < 256 := by omega
                  have hcd := hT.b.cell k hk2
                  have hfd := hT.b.free k
                  have hce := hT.c.cell k hk2
                  have hfe := hT.c.free k
                  rw [hsf] at hce
                  clear hsf
                  go_wp2
                  go_roundw
                  case rel => exact ⟨m + 1, by omega, by go_num, hT.setBC hlt (by rw [HZ.out]; exact hk) hk2 HY.out⟩
                  case measure => simp [intOf]; omega
                · obtain rfl : m = ms'.length := by omega
                  go_wp2
                  go_loop [16, 17] (fun s i => ∃ k p : Nat, k ≤ 256 ∧ i = .int .i64 k ∧ s = .int .i64 p ∧ p = pres (bef ms' ns' ms'.length) k) (fun _ i => 256 - (intOf i).toNat)
                  case atStart => exact ⟨0, 0, by omega, rfl, rfl, rfl⟩
                  case round =>
                    obtain ⟨k, p, hk, rfl, rfl, hp⟩ := hrel
                    have HPR : Hid (p = pres (bef ms' ns' ms'.length) k) := hp
                    clear hp
                    have hpl : p ≤ k := by have := HPR.out; rw [this]; exact pres_le _ _
                    by_cases hlt3 : k < 256
                    · have hca := hT.a.cell k hlt3
                      have hcb := hT.b.cell k hlt3
                      have hbd := bef_bd (fun i => (HR2.out i).2) HW.out k
                      have htab := HF.out.tab k
                      have hst : pres (bef ms' ns' ms'.length) (k + 1) = p + if 0 < bef ms' ns' ms'.length k then 1 else 0 := by rw [pres, ← HPR.out]
                      unfold wantF at htab
                      generalize bef ms ns ms.length k = v at *
                      generalize bef ms' ns' ms'.length k = v' at *
                      have HST : Hid (pres (bef ms' ns' ms'.length) (k + 1) = p + if 0 < v' then 1 else 0) := hst
                      clear hst
                      by_cases hkk : k = km
                      · have hkb : ((k : Int) == (km : Int)) = true := by simp [hkk]
                        by_cases hv : 0 < v
                        · rw [if_pos ⟨hkk, hv⟩] at htab
                          clear hkk
                          subst htab
                          by_cases hv2 : 0 < v - 1
                          · go_wp2
                            go_round
                            case rel => exact ⟨k + 1, p + 1, by omega, by go_num, by go_num, by rw [HST.out, if_pos hv2]⟩
                            case measure => simp [intOf]; omega
                          · go_wp2
                            go_round
                            case rel => exact ⟨k + 1, p, by omega, by go_num, by go_num, by rw [HST.out, if_neg hv2]; rfl⟩
                            case measure => simp [intOf]; omega
                        · rw [if_neg (fun x => hv x.2)] at htab
                          clear hkk
                          subst htab
                          go_wp2
                          go_round
                          case rel => exact ⟨k + 1, p, by omega, by go_num, by go_num, by rw [HST.out, if_neg hv]; rfl⟩
                          case measure => simp [intOf]; omega
                      · have hkb : ((k : Int) == (km : Int)) = false := by simp; omega
                        rw [if_neg (fun x => hkk x.1)] at htab
                        clear hkk
                        subst htab
                        by_cases hv : 0 < v'
                        · go_wp2
                          go_round
                          case rel => exact ⟨k + 1, p + 1, by omega, by go_num, by go_num, by rw [HST.out, if_pos hv]⟩
                          case measure => simp [intOf]; omega
                        · go_wp2
                          go_round
                          case rel => exact ⟨k + 1, p, by omega, by go_num, by go_num, by rw [HST.out, if_neg hv]; rfl⟩
                          case measure => simp [intOf]; omega
                    · obtain rfl : k = 256 := by omega
                      obtain rfl : p = ms'.length := by rw [HPR.out]; exact pres_bef HF.out.rng HF.out.wf
                      clear HPR hpl hlt3
                      have hkm2 : km < 256 := by omega
                      have hca := hT.a.cell km hkm2
                      have hsame := HF.out.same
                      generalize bef ms ns ms.length km = v at *
                      have HS : Hid (v ≠ 1 → ms' = ms) := hsame
                      clear hsame
                      have hBB : Hid (Below w.heap.size w wr) := HB.out.trans (hT.bel.mono HB.out.size)
                      cases hv : (v != 1)
                      · go_wp2
                        go_ret
                        exact ⟨rfl, hBB.out⟩
                      · have hse : ms' = ms := HS.out (by simpa using hv)
                        have hsl : ((ms'.length : Int) != (ms.length : Int)) = false := by rw [hse]; simp
                        have HSE : Hid (ms' = ms) := hse
                        clear hse
                        have HMo : Hid (Elems .i8 wr aM ms') := hoM.below hT.bel (Nat.le_refl _)
                        have HMi : Hid (Elems .i8 wr a' ms) := hM4.below hT.bel (Nat.le_refl _)
                        have hws : w.heap.size ≤ wr.heap.size := hBB.out.size
                        clear hoM hoN hM4 hN4
                        go_wp2
                        go_loopw [19] (fun i wt => ∃ m : Nat, m ≤ ms.length ∧ i = .int .i64 m ∧ Below wr.heap.size wr wt) (fun i _ => ms.length - (intOf i).toNat)
                        case atStart => exact ⟨0, Nat.zero_le _, rfl, Below.refl _ _⟩
                        case round =>
                          obtain ⟨m, hmm, rfl, hB5⟩ := hrel
                          by_cases hlt : m < ms.length
                          · obtain ⟨b, off, rfl, hc⟩ := (HMi.out.below hB5 (Nat.le_refl _)).at (by omega)
                            obtain ⟨b2, off2, rfl, hc2⟩ := (HMo.out.below hB5 (Nat.le_refl _)).at (by rw [HSE.out]; omega)
                            have hcm := hc m hlt
                            have hcn := hc2 m (by rw [HSE.out]; exact hlt)
                            rw [HSE.out] at hcn
                            have hlt' : m < ms'.length := by rw [HSE.out]; exact hlt
                            clear hc hc2
                            generalize ms.getD m 0 = z at *
                            go_wp2
                            go_quiet (fail)
                            go_wp2
                            go_roundw
                            case rel => exact ⟨m + 1, by omega, by go_num, belowN hB5 _⟩
                            case measure => simp [intOf]; omega
                          · obtain rfl : m = ms.length := by omega
                            go_wp2
                            go_ret
                            exact ⟨rfl, hBB.out.trans (hB5.mono hws)⟩
      · go_wp2
        go_ret
        exact ⟨rfl, Below.refl _ _⟩
    · go_wp2
      go_ret
      exact ⟨rfl, Below.refl _ _⟩
end Go.Proofs.Qxb6601372a
