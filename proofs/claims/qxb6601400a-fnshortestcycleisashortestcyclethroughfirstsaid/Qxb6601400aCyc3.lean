import Derived.Test.Qxb6601400aCyc2
namespace Go.Proofs.Qxb6601400a
open Go.RowKit

set_option maxRecDepth 100000 in
set_option maxHeartbeats 1000000 in
theorem bytes13 (a a2 : Option Addr) (cap cap2 n : Nat) (rs : List (List Int)) (w : World) (hR : Rows w a2 rs) (hn : n ≤ 9223372036854775807) (hrn : rs.length ≤ 9223372036854775807) (hrl : ∀ k, (rs.getD k []).length ≤ 9223372036854775807) :
    Calls Try.prog 13 #[.slice a n cap, .slice a2 rs.length cap2] w (BytesQ w) := by
  have HL : Hid (∀ k, (rs.getD k []).length ≤ 9223372036854775807) := hrl
  clear hrl
  by_cases c1 : n ≤ 1048576
  · by_cases c2 : rs.length ≤ 1048576
    · by_cases c3 : n + rs.length ≤ 1048576
      · go_enter Try.func13, Try.ntmps13
        go_wp2
        go_loop [5, 6] (fun s i => ∃ m z : Nat, m ≤ rs.length ∧ z ≤ 1048576 ∧ i = .int .i64 m ∧ s = .int .i64 z) (fun _ i => rs.length - (intOf i).toNat)
        case atStart => exact ⟨0, n + rs.length, by omega, c3, rfl, by go_num⟩
        case round =>
          obtain ⟨m, z, hm, hz, rfl, rfl⟩ := hrel
          by_cases hlt : m < rs.length
          · obtain ⟨b, off, rfl, hc⟩ := hR.at (by omega)
            obtain ⟨ak, ck, hcm, -, -⟩ := hc m hlt
            have hl := HL.out m
            clear hc
            generalize (rs.getD m []).length = l at *
            by_cases d1 : l ≤ 1048576
            · by_cases d2 : z + l ≤ 1048576
              · go_wp2
                go_round
                case rel => exact ⟨m + 1, z + l, by omega, d2, by go_num, by go_num⟩
                case measure => simp [intOf]; omega
              · go_wp2
                go_ret
                exact ⟨false, rfl, rfl⟩
            · go_wp2
              go_ret
              exact ⟨false, rfl, rfl⟩
          · obtain rfl : m = rs.length := by omega
            go_wp2
            go_ret
            exact ⟨true, rfl, rfl⟩
      · go_enter Try.func13, Try.ntmps13
        go_wp2
        go_ret
        exact ⟨false, rfl, rfl⟩
    · go_enter Try.func13, Try.ntmps13
      go_wp2
      go_ret
      exact ⟨false, rfl, rfl⟩
  · go_enter Try.func13, Try.ntmps13
    go_wp2
    go_ret
    exact ⟨false, rfl, rfl⟩

def SizeQ (n : Nat) (rs : List (List Int)) (w : World) (e : Ending) (w' : World) : Prop :=
  ∃ c, e = .returned (.bool c) ∧ (c = true → n ≤ 4096 ∧ rs.length ≤ 65536 ∧ ∀ k, k < rs.length → (rs.getD k []).length ≤ 131072) ∧ w = w'

set_option maxRecDepth 100000 in
set_option maxHeartbeats 1000000 in
theorem size14 (a a2 : Option Addr) (cap cap2 n : Nat) (rs : List (List Int)) (w : World) (hR : Rows w a2 rs) (hn : n ≤ 9223372036854775807) (hrn : rs.length ≤ 9223372036854775807) (hrl : ∀ k, (rs.getD k []).length ≤ 9223372036854775807) :
    Calls Try.prog 14 #[.slice a n cap, .slice a2 rs.length cap2] w (SizeQ n rs w) := by
  have HL : Hid (∀ k, (rs.getD k []).length ≤ 9223372036854775807) := hrl
  clear hrl
  by_cases c1 : n ≤ 4096
  · by_cases c2 : rs.length ≤ 65536
    · go_enter Try.func14, Try.ntmps14
      go_wp2
      go_loop [5, 6] (fun s i => ∃ m z : Nat, m ≤ rs.length ∧ z ≤ 1605632 ∧ i = .int .i64 m ∧ s = .int .i64 z ∧ Hid (∀ k, k < m → (rs.getD k []).length ≤ 131072)) (fun _ i => rs.length - (intOf i).toNat)
      case atStart => exact ⟨0, 8 * n + 24 * rs.length, by omega, by omega, rfl, by go_num, fun k h => by omega⟩
      case round =>
        obtain ⟨m, z, hm, hz, rfl, rfl, hk⟩ := hrel
        by_cases hlt : m < rs.length
        · obtain ⟨b, off, rfl, hc⟩ := hR.at (by omega)
          obtain ⟨ak, ck, hcm, -, -⟩ := hc m hlt
          have hl := HL.out m
          clear hc
          obtain ⟨l, hlv⟩ : ∃ l, l = (rs.getD m []).length := ⟨_, rfl⟩
          rw [← hlv] at hcm hl
          have HLV : Hid (l = (rs.getD m []).length) := hlv
          clear hlv
          by_cases d1 : l ≤ 131072
          · by_cases d2 : z + 8 * l ≤ 1048576
            · go_wp2
              go_round
              case rel => exact ⟨m + 1, z + 8 * l, by omega, by omega, by go_num, by go_num, fun k hkm => by
                by_cases c : k = m
                · subst c; rw [← HLV.out]; exact d1
                · exact hk.out k (by omega)⟩
              case measure => simp [intOf]; omega
            · go_wp2
              go_ret
              exact ⟨false, rfl, (fun h => by cases h), rfl⟩
          · go_wp2
            go_ret
            exact ⟨false, rfl, (fun h => by cases h), rfl⟩
        · obtain rfl : m = rs.length := by omega
          by_cases d2 : z ≤ 1048576
          · go_wp2
            go_ret
            exact ⟨true, by simp; omega, fun _ => ⟨c1, c2, hk.out⟩, rfl⟩
          · go_wp2
            go_ret
            exact ⟨false, by simp; omega, (fun h => by cases h), rfl⟩
    · go_enter Try.func14, Try.ntmps14
      go_wp2
      go_ret
      exact ⟨false, rfl, (fun h => by cases h), rfl⟩
  · go_enter Try.func14, Try.ntmps14
    go_wp2
    go_ret
    exact ⟨false, rfl, (fun h => by cases h), rfl⟩

def DomQ (gs : List Int) (n : Nat) (w : World) (e : Ending) (w' : World) : Prop :=
  ∃ c, e = .returned (.bool c) ∧ (c = true → 0 < gs.length ∧ (∀ i, i < gs.length → 0 ≤ gs.getD i 0 ∧ gs.getD i 0 < (n : Int)) ∧ ∀ i j, i ≤ j → j < gs.length → gs.getD i 0 ≤ gs.getD j 0) ∧ Below w.heap.size w w'
theorem asc_of {gs : List Int} {m : Nat} (h : ∀ i, i + 1 < m → gs.getD i 0 ≤ gs.getD (i + 1) 0) : ∀ i j, i ≤ j → j < m → gs.getD i 0 ≤ gs.getD j 0 := by
  intro i j hij
  induction j with
  | zero => intro _; obtain rfl : i = 0 := by omega
            exact Int.le_refl _
  | succ j ih =>
    intro hj
    by_cases c : i = j + 1
    · subst c; exact Int.le_refl _
    · exact Int.le_trans (ih (by omega) (by omega)) (h j hj)

set_option maxRecDepth 100000 in
set_option maxHeartbeats 1000000 in
theorem dom15 (a a2 : Option Addr) (cap cap2 n : Nat) (gs : List Int) (w : World) (hE : Elems .i64 w a gs) (hn : gs.length ≤ 4096) (_hn2 : n ≤ 65536) :
    Calls Try.prog 15 #[.slice a gs.length cap, .slice a2 n cap2] w (DomQ gs n w) := by
  by_cases c0 : gs.length = 0
  · have hz : ((gs.length : Int) == 0) = true := beq_iff_eq.2 (by omega)
    have H0 : Hid (gs.length = 0) := c0
    clear c0
    go_enter Try.func15, Try.ntmps15
    go_wp2
    go_ret
    exact ⟨false, rfl, (fun h => by cases h), Below.refl _ _⟩
  · have hz : ((gs.length : Int) == 0) = false := beq_eq_false_iff_ne.2 (by omega)
    go_enter Try.func15, Try.ntmps15
    go_wp2
    go_loopw [5] (fun i wr => ∃ m : Nat, m ≤ gs.length ∧ i = .int .i64 m ∧ Hid ((∀ i, i < m → 0 ≤ gs.getD i 0 ∧ gs.getD i 0 < (n : Int)) ∧ (∀ i, i + 1 < m → gs.getD i 0 ≤ gs.getD (i + 1) 0)) ∧ Below w.heap.size w wr) (fun i _ => gs.length - (intOf i).toNat)
    case atStart => exact ⟨0, by omega, rfl, ⟨fun i h => by omega, fun i h => by omega⟩, Below.refl _ _⟩
    case round =>
      obtain ⟨m, hm, rfl, hI, hB⟩ := hrel
      by_cases hlt : m < gs.length
      · obtain ⟨b, off, rfl, hc⟩ := (hE.below hB (Nat.le_refl _)).at (by omega)
        have hcm := hc m hlt
        obtain ⟨v, hv⟩ : ∃ v, v = gs.getD m 0 := ⟨_, rfl⟩
        rw [← hv] at hcm
        have HV : Hid (v = gs.getD m 0) := hv
        clear hv
        by_cases d1 : v < 0
        · clear hc
          go_wp2
          go_ret
          exact ⟨false, rfl, (fun h => by cases h), hB⟩
        · by_cases d2 : v < (n : Int)
          · by_cases d3 : 0 < m
            · have hcp := hc (m - 1) (by omega)
              obtain ⟨u, hu⟩ : ∃ u, u = gs.getD (m - 1) 0 := ⟨_, rfl⟩
              rw [← hu] at hcp
              have HU : Hid (u = gs.getD (m - 1) 0) := hu
              clear hu hc
              have d3i : (0 : Int) < (m : Int) := by omega
              by_cases d4 : v < u
              · go_wp2
                go_quiet (fail)
                go_wp2
                go_ret
                exact ⟨false, rfl, (fun h => by cases h), belowN hB _⟩
              · go_wp2
                go_quiet (fail)
                go_wp2
                go_roundw
                case rel => exact ⟨m + 1, by omega, by go_num, ⟨fun i hi => by
                  by_cases c : i = m
                  · subst c; rw [← HV.out]; omega
                  · exact hI.out.1 i (by omega), fun i hi => by
                  by_cases c : i + 1 = m
                  · subst c
                    rw [show i = i + 1 - 1 from by omega, ← HU.out, show i + 1 - 1 + 1 = i + 1 from by omega, ← HV.out]; omega
                  · exact hI.out.2 i (by omega)⟩, belowN hB _⟩
                case measure => simp [intOf]; omega
            · clear hc
              have d3i : decide ((0 : Int) < (m : Int)) = false := decide_eq_false (by omega)
              go_wp2
              go_quiet (fail)
              go_wp2
              go_roundw
              case rel => exact ⟨m + 1, by omega, by go_num, ⟨fun i hi => by
                obtain rfl : i = m := by omega
                rw [← HV.out]; omega, fun i hi => by omega⟩, belowN hB _⟩
              case measure => simp [intOf]; omega
          · clear hc
            go_wp2
            go_ret
            exact ⟨false, rfl, (fun h => by cases h), hB⟩
      · obtain rfl : m = gs.length := by omega
        go_wp2
        go_ret
        exact ⟨true, rfl, fun _ => ⟨by omega, hI.out.1, asc_of hI.out.2⟩, hB⟩
end Go.Proofs.Qxb6601400a
