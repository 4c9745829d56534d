import Derived.Test.Qxb6601372aPlain2
import Derived.Test.Qxb6601372aFewer
namespace Go.Proofs.Qxb6601372a
open Go.RowKit

set_option maxHeartbeats 400000 in
theorem bytes26 (a a2 : Option Addr) (n n2 cap cap2 : Nat) (w : World) (h : n ≤ 9223372036854775807) (h2 : n2 ≤ 9223372036854775807) :
    Calls Try.prog 26 #[.slice a n cap, .slice a2 n2 cap2] w (BytesQ w n n2) := by
  by_cases c1 : n ≤ 1048576
  · by_cases c2 : n2 ≤ 1048576
    · by_cases c3 : n + n2 ≤ 1048576
      · go_enter Try.func26, Try.ntmps26
        go_wp2
        go_ret
        exact ⟨true, rfl, fun _ => c3, rfl⟩
      · go_enter Try.func26, Try.ntmps26
        go_wp2
        go_ret
        exact ⟨false, rfl, (fun h => by cases h), rfl⟩
    · go_enter Try.func26, Try.ntmps26
      go_wp2
      go_ret
      exact ⟨false, rfl, (fun h => by cases h), rfl⟩
  · go_enter Try.func26, Try.ntmps26
    go_wp2
    go_ret
    exact ⟨false, rfl, (fun h => by cases h), rfl⟩

def TotQ (w : World) (S : Int) (e : Ending) (w' : World) : Prop := e = .returned (.int .i64 S) ∧ w = w'

set_option maxHeartbeats 400000 in
theorem total27 (a : Option Addr) (cap : Nat) (ns : List Int) (w : World) (hN : Elems .i32 w a ns) (hn : ns.length ≤ 1048576) (hr : ∀ i, -2147483648 ≤ ns.getD i 0 ∧ ns.getD i 0 ≤ 2147483647) :
    Calls Try.prog 27 #[.slice a ns.length cap] w (TotQ w (sumN ns ns.length)) := by
  have HR : Hid (∀ i, -2147483648 ≤ ns.getD i 0 ∧ ns.getD i 0 ≤ 2147483647) := hr
  clear hr
  go_enter Try.func27, Try.ntmps27
  go_wp2
  go_loop [3, 4] (fun s i => ∃ m : Nat, m ≤ ns.length ∧ i = .int .i64 m ∧ s = .int .i64 (sumN ns m)) (fun _ i => ns.length - (intOf i).toNat)
  case atStart => exact ⟨0, Nat.zero_le _, rfl, rfl⟩
  case round =>
    obtain ⟨m, hm, rfl, rfl⟩ := hrel
    have hb := sumN_bd HR.out m
    by_cases hlt : m < ns.length
    · obtain ⟨b, off, rfl, hc⟩ := hN.at (by omega)
      have hcm := hc m hlt
      have hrm := HR.out m
      have HS : Hid (sumN ns (m + 1) = sumN ns m + ns.getD m 0) := rfl
      generalize sumN ns m = S at *
      generalize ns.getD m 0 = y at *
      clear hc hN
      go_wp2
      go_round
      case rel => exact ⟨m + 1, by omega, by go_num, by rw [HS.out]⟩
      case measure => simp [intOf]; omega
    · obtain rfl : m = ns.length := by omega
      go_wp2
      go_ret
      exact ⟨rfl, rfl⟩

def Inv (ms ns : List Int) (w5 : World) (m : Nat) (t : Int) (l cM cN : Value) (wr : World) : Prop :=
  ∃ cm cn aM aN capM capN, cM = .slice aM cm.length capM ∧ cN = .slice aN cn.length capN ∧ l = .int .i64 (sumN cn cn.length) ∧ Elems .i8 wr aM cm ∧ Elems .i32 wr aN cn ∧ Cur ms ns m t cm cn ∧ Below w5.heap.size w5 wr

set_option maxRecDepth 100000 in
set_option maxHeartbeats 4000000 in
theorem empties (a a2 : Option Addr) (cap cap2 : Nat) (ms ns : List Int) (w : World) (hM : Elems .i8 w a ms) (hN : Elems .i32 w a2 ns)
    (hm : ms.length ≤ 9223372036854775807) (hn : ns.length ≤ 9223372036854775807) (hnilM : a = none → ms = []) (hnilN : a2 = none → ns = [])
    (hr : ∀ i, -128 ≤ ms.getD i 0 ∧ ms.getD i 0 ≤ 127) (hr2 : ∀ i, -2147483648 ≤ ns.getD i 0 ∧ ns.getD i 0 ≤ 2147483647) :
    Calls Try.prog 8 #[.slice a ms.length cap, .slice a2 ns.length cap2] w (LawQ w) := by
  have HR : Hid (∀ i, -128 ≤ ms.getD i 0 ∧ ms.getD i 0 ≤ 127) := hr
  have HR2 : Hid (∀ i, -2147483648 ≤ ns.getD i 0 ∧ ns.getD i 0 ≤ 2147483647) := hr2
  have HnilM : Hid (a = none → ms = []) := hnilM
  have HnilN : Hid (a2 = none → ns = []) := hnilN
  clear hr hr2 hnilM hnilN
  go_enter Try.func8, Try.ntmps8
  go_wp2_with fail
  refine (bytes26 _ _ _ _ _ _ _ hm hn).mono ?_
  rintro e w1 ⟨c, rfl, hc, rfl⟩
  cases c
  · go_wp2
    go_ret
    exact ⟨rfl, Below.refl _ _⟩
  · have hsum := hc rfl
    clear hc
    by_cases h1 : ms.length ≤ 65536
    · by_cases h2 : ns.length ≤ 65536
      · go_wp2_with fail
        refine (wellFormed _ _ _ _ ms ns _ hM hN (by omega) HR.out).mono ?_
        rintro e w1 ⟨c, rfl, hwf, hB1⟩
        cases c
        · go_wp2
          go_ret
          exact ⟨rfl, hB1⟩
        · have hx := hwf rfl
          clear hwf
          obtain ⟨hl, hwf⟩ := hx
          have HL : Hid (ms.length = ns.length) := hl
          have HW : Hid (WF ms ns ms.length) := hwf
          clear hl hwf
          have hN1 := hN.below hB1 (Nat.le_refl _)
          have hM1 := hM.below hB1 (Nat.le_refl _)
          clear hM hN
          go_wp2_with fail
          refine (total27 _ _ ns _ hN1 (by omega) HR2.out).mono ?_
          rintro e w1' ⟨rfl, rfl⟩
          have HS0 : Hid (∃ S, S = sumN ns ns.length) := ⟨_, rfl⟩
          obtain ⟨S, hS⟩ := HS0.out
          clear HS0
          rw [← hS]
          have HS : Hid (S = sumN ns ns.length) := hS
          clear hS
          by_cases h3 : S ≤ 65536
          · go_wp2_with fail
            refine (clone8 _ _ ms _ hM1 (by omega) HnilM.out).mono ?_
            rintro e w2 ⟨a', cap', rfl, hM2, hn2, hB2⟩
            have Hn2 : Hid (a' = none → ms = []) := hn2
            clear hn2
            go_wp2_with fail
            refine (clone32 _ _ ns _ (hN1.below hB2 (Nat.le_refl _)) (by omega) HnilN.out).mono ?_
            rintro e w3 ⟨a2', cap2', rfl, hN3, hn3, hB3⟩
            have Hn3 : Hid (a2' = none → ns = []) := hn3
            clear hn3
            have hM3 := hM2.below hB3 (Nat.le_refl _)
            clear hM2 hM1 hN1 HnilM HnilN
            go_wp2_with fail
            refine (clone8 _ _ ms _ hM3 (by omega) Hn2.out).mono ?_
            rintro e w4 ⟨a4, cap4, rfl, hM4, -, hB4⟩
            go_wp2_with fail
            refine (clone32 _ _ ns _ (hN3.below hB4 (Nat.le_refl _)) (by omega) Hn3.out).mono ?_
            rintro e w5 ⟨a5, cap5, rfl, hN5, -, hB5⟩
            have HB : Hid (Below w.heap.size w w5) := (((hB1.trans (hB2.mono hB1.size)).trans (hB3.mono (Nat.le_trans hB1.size hB2.size))).trans (hB4.mono (Nat.le_trans hB1.size (Nat.le_trans hB2.size hB3.size)))).trans (hB5.mono (Nat.le_trans hB1.size (Nat.le_trans hB2.size (Nat.le_trans hB3.size hB4.size))))
            have hMi := (hM3.below hB4 (Nat.le_refl _)).below hB5 (Nat.le_refl _)
            have hNi := (hN3.below hB4 (Nat.le_refl _)).below hB5 (Nat.le_refl _)
            have HC : Hid (Elems .i8 w5 a4 ms) := hM4.below hB5 (Nat.le_refl _)
            have HD : Hid (Elems .i32 w5 a5 ns) := hN5
            clear hM4 hN5 hM3 hN3 hB1 hB2 hB3 hB4 hB5 Hn2 Hn3
            go_wp2
            go_loopw [5, 6, 7, 8] (fun l cM cN i wr => ∃ m : Nat, m ≤ ms.length ∧ i = .int .i64 m ∧ Inv ms ns w5 m 0 l cM cN wr) (fun _ _ _ i _ => ms.length - (intOf i).toNat)
            case atStart => exact ⟨0, Nat.zero_le _, rfl, ms, ns, _, _, _, _, rfl, rfl, by rw [HS.out], HC.out, HD.out, Cur.start HL.out HW.out HR.out HR2.out, Below.refl _ _⟩
            case round =>
              obtain ⟨m, hmm, rfl, hInv⟩ := hrel
              by_cases hlt : m < ms.length
              · have hlt2 : m < ns.length := by have := HL.out; omega
                obtain ⟨b, off, rfl, hcb⟩ := hMi.at (by omega)
                obtain ⟨b2, off2, rfl, hcb2⟩ := hNi.at (by omega)
                have HCB : Hid (w5.cell? ⟨b, off + m, none⟩ = some (.int .i8 (ms.getD m 0))) := hcb m hlt
                have HCB2 : Hid (w5.cell? ⟨b2, off2 + m, none⟩ = some (.int .i32 (ns.getD m 0))) := hcb2 m hlt2
                have hpos := HW.out.pos m hlt
                have hrm := HR.out m
                have hrn := HR2.out m
                have HST : Hid (∀ t cm cn cm' cn', Cur ms ns m t cm cn → t < ns.getD m 0 → Rm cm cn (ms.getD m 0) cm' cn' → Cur ms ns m (t + 1) cm' cn' ∧ sumN cn' cn'.length = sumN cn cn.length - 1) := fun t cm cn cm' cn' h ht hR => h.step HW.out HR.out hlt ht hR
                clear hcb hcb2 hMi hNi HC HD
                obtain ⟨y, hy⟩ : ∃ y, y = ns.getD m 0 := ⟨_, rfl⟩
                obtain ⟨z, hz⟩ : ∃ z, z = ms.getD m 0 := ⟨_, rfl⟩
                rw [← hy] at HCB2 hpos hrn HST
                rw [← hz] at HCB hrm HST
                have HY : Hid (y = ns.getD m 0) := hy
                clear hy hz
                obtain ⟨cm0, cn0, aM0, aN0, capM0, capN0, rfl, rfl, rfl, hE0, hE1, hCur, hB0⟩ := hInv
                have HInv : Hid (Inv ms ns w5 m 0 (.int .i64 (sumN cn0 cn0.length)) (.slice aM0 cm0.length capM0) (.slice aN0 cn0.length capN0) wr) := ⟨cm0, cn0, aM0, aN0, capM0, capN0, rfl, rfl, rfl, hE0, hE1, hCur, hB0⟩
                clear hE0 hE1 hCur hB0
                go_wp2
                go_loopw [5, 6, 7, 9] (fun l cM cN k wr => ∃ t : Nat, (t : Int) ≤ y ∧ k = .int .i32 t ∧ Inv ms ns w5 m t l cM cN wr) (fun _ _ _ k _ => (y - intOf k).toNat)
                case atStart => exact ⟨0, by omega, rfl, HInv.out⟩
                case round =>
                  clear HInv
                  obtain ⟨t, ht, rfl, cm, cn, aM, aN, capM, capN, rfl, rfl, rfl, hEM, hEN, hCur, hB⟩ := hrel
                  have hc2 : wr.cell? ⟨b2, off2 + m, none⟩ = some (.int .i32 y) := (hB.cell (p := ⟨b2, off2 + m, none⟩) (block_lt_of_cell HCB2.out)).trans HCB2.out
                  have hc1 : wr.cell? ⟨b, off + m, none⟩ = some (.int .i8 z) := (hB.cell (p := ⟨b, off + m, none⟩) (block_lt_of_cell HCB.out)).trans HCB.out
                  have HCur : Hid (Cur ms ns m t cm cn) := hCur
                  have hcl : cm.length ≤ ms.length := hCur.le
                  have hcl2 : cn.length ≤ ms.length := by rw [← hCur.len]; exact hCur.le
                  have hsb := sumN_bd hCur.rng2 cn.length
                  clear hCur
                  by_cases htl : (t : Int) < y
                  · go_wp2_with fail
                    refine (zzremove _ _ _ _ cm cn z _ hEM hEN HCur.out.len (by omega) HCur.out.wf.pos (fun i => (HCur.out.rng2 i).2)).mono ?_
                    rintro e w6 ⟨cm', cn', aM', aN', cM', cN', hR, rfl, hoM, hoN, hB6⟩
                    have hst := HST.out t cm cn cm' cn' HCur.out htl hR
                    clear hR
                    have HCur' : Hid (Cur ms ns m (t + 1) cm' cn') := hst.1
                    have HSum : Hid (sumN cn' cn'.length = sumN cn cn.length - 1) := hst.2
                    clear hst
                    have hll : ((cm'.length : Int) != (cn'.length : Int)) = false := by have := HCur'.out.len; simp; omega
                    have hcl3 : cn'.length ≤ ms.length := by rw [← HCur'.out.len]; exact HCur'.out.le
                    go_wp2_with fail
                    refine (total27 _ _ cn' _ hoN (by omega) HCur'.out.rng2).mono ?_
                    rintro e w7 ⟨rfl, rfl⟩
                    rw [HSum.out]
                    generalize hgs : sumN cn cn.length = S' at *
                    have HGS : Hid (sumN cn cn.length = S') := hgs
                    clear hgs
                    go_wp2
                    go_roundw
                    case rel => exact ⟨t + 1, by omega, by go_num, cm', cn', _, _, _, _, rfl, rfl, by rw [HSum.out], hoM, hoN, HCur'.out, hB.trans (hB6.mono hB.size)⟩
                    case measure => simp [intOf]; omega
                  · go_wp2
                    go_roundw
                    case rel => exact ⟨m + 1, by omega, by go_num, cm, cn, _, _, _, _, rfl, rfl, rfl, hEM, hEN, Cur.next (by rw [← HY.out, show y = (t : Int) from by omega]; exact HCur.out), hB⟩
                    case measure => simp [intOf]; omega
              · obtain rfl : m = ms.length := by omega
                obtain ⟨cm, cn, aM, aN, capM, capN, rfl, rfl, rfl, hEM, hEN, hCur, hB⟩ := hInv
                obtain ⟨e1, e2⟩ := hCur.done (Nat.le_refl _)
                subst e1 e2
                clear hCur hEM hEN
                go_wp2
                go_ret
                exact ⟨rfl, HB.out.trans (hB.mono HB.out.size)⟩
          · go_wp2
            go_ret
            exact ⟨rfl, hB1⟩
      · go_wp2
        go_ret
        exact ⟨rfl, Below.refl _ _⟩
    · go_wp2
      go_ret
      exact ⟨rfl, Below.refl _ _⟩
end Go.Proofs.Qxb6601372a
