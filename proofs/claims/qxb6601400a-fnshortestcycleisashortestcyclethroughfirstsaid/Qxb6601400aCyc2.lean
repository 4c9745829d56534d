import Derived.Test.Qxb6601400aCyc1
namespace Go.Proofs.Qxb6601400a
open Go.RowKit

def BoolQ (c : Bool) (w : World) (e : Ending) (w' : World) : Prop := e = .returned (.bool c) ∧ w = w'

theorem nan30 (x : Int) (w : World) : Calls Try.prog 30 #[.int .i64 x] w (BoolQ false w) := by
  go_enter Try.func30, Try.ntmps30
  go_wp2
  go_ret
  exact ⟨by simp, rfl⟩
theorem nan29 (x : Int) (w : World) : Calls Try.prog 29 #[.int .i64 x] w (BoolQ false w) := by
  go_enter Try.func29, Try.ntmps29
  go_wp2
  go_ret
  exact ⟨by simp, rfl⟩
theorem less28 (x y : Int) (w : World) : Calls Try.prog 28 #[.int .i64 x, .int .i64 y] w (BoolQ (decide (x < y)) w) := by
  by_cases h : x < y
  · go_enter Try.func28, Try.ntmps28
    go_wp2_with fail
    refine (nan30 x _).mono ?_
    rintro e w1 ⟨rfl, rfl⟩
    go_wp2
    go_ret
    exact ⟨by simp [h], rfl⟩
  · go_enter Try.func28, Try.ntmps28
    go_wp2_with fail
    refine (nan30 x _).mono ?_
    rintro e w1 ⟨rfl, rfl⟩
    go_wp2
    go_ret
    exact ⟨by simp, rfl⟩

def SearchBQ (gs : List Int) (x : Int) (w : World) (e : Ending) (w' : World) : Prop := ∃ i : Int, e = .returned (.tuple #[.int .i64 i, .bool (gs.contains x)]) ∧ w = w'

set_option maxHeartbeats 1000000 in
theorem binSearch (a : Option Addr) (cap : Nat) (gs : List Int) (x : Int) (w : World) (hE : Elems .i64 w a gs) (hn : gs.length ≤ 1048576) (hs : ∀ i j, i ≤ j → j < gs.length → gs.getD i 0 ≤ gs.getD j 0) :
    Calls Try.prog 27 #[.slice a gs.length cap, .int .i64 x] w (SearchBQ gs x w) := by
  have HS : Hid (∀ i j, i ≤ j → j < gs.length → gs.getD i 0 ≤ gs.getD j 0) := hs
  clear hs
  go_enter Try.func27, Try.ntmps27
  go_wp2
  go_loop [7, 8] (fun i j => ∃ p q : Nat, i = .int .i64 p ∧ j = .int .i64 q ∧ p ≤ q ∧ q ≤ gs.length ∧ Hid ((∀ t, t < p → gs.getD t 0 < x) ∧ (∀ t, q ≤ t → t < gs.length → x ≤ gs.getD t 0))) (fun i j => (intOf j - intOf i).toNat)
  case atStart => exact ⟨0, gs.length, rfl, rfl, by omega, by omega, fun t h => by omega, fun t h1 h2 => by omega⟩
  case round =>
    obtain ⟨p, q, rfl, rfl, hpq, hq, hI⟩ := hrel
    by_cases hlt : p < q
    · obtain ⟨b, off, rfl, hc⟩ := hE.at (by omega)
      have hcm := hc ((p + q) / 2) (by omega)
      clear hc
      obtain ⟨v, hv⟩ : ∃ v, v = gs.getD ((p + q) / 2) 0 := ⟨_, rfl⟩
      rw [← hv] at hcm
      have HV : Hid (v = gs.getD ((p + q) / 2) 0) := hv
      clear hv
      by_cases hvx : v < x
      · have hd : decide (v < x) = true := by simp [hvx]
        go_wp2_with fail
        refine (less28 v x _).mono ?_
        rintro e w1 ⟨rfl, rfl⟩
        rw [hd]
        go_wp2
        go_round
        case rel => exact ⟨(p + q) / 2 + 1, q, by go_num, rfl, by omega, hq, fun t ht => by
          have := HS.out t ((p + q) / 2) (by omega) (by omega)
          rw [← HV.out] at this; omega, hI.out.2⟩
        case measure => simp [intOf]; omega
      · have hd : decide (v < x) = false := by simp [hvx]
        go_wp2_with fail
        refine (less28 v x _).mono ?_
        rintro e w1 ⟨rfl, rfl⟩
        rw [hd]
        go_wp2
        go_round
        case rel => exact ⟨p, (p + q) / 2, rfl, by go_num, by omega, by omega, hI.out.1, fun t h1 h2 => by
          have := HS.out ((p + q) / 2) t h1 h2
          rw [← HV.out] at this; omega⟩
        case measure => simp [intOf]; omega
    · obtain rfl : q = p := by omega
      have HNO : Hid (∀ t, t < gs.length → gs.getD t 0 = x → q < gs.length ∧ gs.getD q 0 = x) := fun t ht hx => by
        have h1 : ¬ t < q := fun c => by have := hI.out.1 t c; omega
        have h2 := hI.out.2 q (Nat.le_refl _) (by omega)
        have h3 := HS.out q t (by omega) ht
        exact ⟨by omega, by omega⟩
      by_cases hql : q < gs.length
      · obtain ⟨b, off, rfl, hc⟩ := hE.at (by omega)
        have hcm := hc q hql
        clear hc
        have HC := contains_at gs x q hql
        obtain ⟨v, hv⟩ : ∃ v, v = gs.getD q 0 := ⟨_, rfl⟩
        rw [← hv] at hcm HC HNO
        have HC' : Hid (v = x → gs.contains x = true) := HC
        clear hv HC
        cases hvx : (v == x)
        · have hcf : gs.contains x = false := by
            refine contains_take gs x gs.length (fun i hi e => ?_) rfl
            have := (HNO.out i hi e).2
            simp [this] at hvx
          have HCF : Hid (gs.contains x = false) := hcf
          clear hcf HNO HC'
          go_wp2_with fail
          refine (nan29 _ _).mono ?_
          rintro e w1 ⟨rfl, rfl⟩
          go_wp2
          go_ret2
          exact ⟨_, by rw [HCF.out]; rfl, rfl⟩
        · have hct : gs.contains x = true := HC'.out (by simpa using hvx)
          have HCT : Hid (gs.contains x = true) := hct
          clear hct HNO HC'
          go_wp2
          go_ret2
          exact ⟨_, by rw [HCT.out]; rfl, rfl⟩
      · have hcf : gs.contains x = false := by
          refine contains_take gs x gs.length (fun i hi e => ?_) rfl
          have := (HNO.out i hi e).1
          omega
        have HCF : Hid (gs.contains x = false) := hcf
        clear hcf HNO
        go_wp2
        go_ret2
        exact ⟨_, by rw [HCF.out]; rfl, rfl⟩

/-- A part of a row behind p exchanges of a reversal. -/
def rv (f : Nat → Int) (off n p j : Nat) : Int := if off ≤ j ∧ j < off + n ∧ (j - off < p ∨ n - p ≤ j - off) then f (off + (n - 1 - (j - off))) else f j
theorem rv_zero (f : Nat → Int) (off n j : Nat) : rv f off n 0 j = f j := by
  unfold rv; rw [if_neg (by omega)]
theorem rv_step (f : Nat → Int) (off n p j : Nat) (h : p < n - 1 - p) :
    (if j = off + (n - 1 - p) then f (off + p) else if j = off + p then f (off + (n - 1 - p)) else rv f off n p j) = rv f off n (p + 1) j := by
  unfold rv
  by_cases c1 : j = off + (n - 1 - p)
  · rw [if_pos c1, if_pos (by omega), show off + (n - 1 - (j - off)) = off + p from by omega]
  · rw [if_neg c1]
    by_cases c2 : j = off + p
    · rw [if_pos c2, if_pos (by omega), show off + (n - 1 - (j - off)) = off + (n - 1 - p) from by omega]
    · rw [if_neg c2]
      by_cases c3 : off ≤ j ∧ j < off + n ∧ (j - off < p ∨ n - p ≤ j - off)
      · rw [if_pos c3, if_pos (by omega)]
      · rw [if_neg c3, if_neg (by omega)]
theorem rv_full (f : Nat → Int) (off n p j : Nat) (h : n ≤ 2 * p + 1) (hp : 2 * p ≤ n + 1) : rv f off n p j = if off ≤ j ∧ j < off + n then f (off + (n - 1 - (j - off))) else f j := by
  unfold rv
  by_cases c : off ≤ j ∧ j < off + n
  · rw [if_pos c]
    by_cases c2 : j - off < p ∨ n - p ≤ j - off
    · rw [if_pos ⟨c.1, c.2, c2⟩]
    · rw [if_neg (fun x => c2 x.2.2), show off + (n - 1 - (j - off)) = j from by omega]
  · rw [if_neg c, if_neg (fun x => c ⟨x.1, x.2.1⟩)]

def RevQ (g N off n : Nat) (f : Nat → Int) (w : World) (e : Ending) (w' : World) : Prop :=
  e = .returned (.tuple #[]) ∧ Arr w' g N (fun j => .int .i64 (if off ≤ j ∧ j < off + n then f (off + (n - 1 - (j - off))) else f j)) ∧ w.grownBy w' (some g)
theorem grown_set {w0 w : World} {g : Nat} (h : w0.grownBy w (some g)) (i : Nat) (v : Value) : w0.grownBy (w.setCell ⟨g, i, none⟩ v) (some g) :=
  ⟨h.os, h.tape, h.output, by simpa using h.size, fun k hk hne => (heap_setCell_other w ⟨g, i, none⟩ k v (fun e => hne (by rw [e]))).trans (h.block k hk hne)⟩
theorem belowN {B : Nat} {a w : World} (h : Below B a w) (n : Nat) : Below B a (w.drewN n) := ⟨h.os, h.tape, h.output, h.size, h.block⟩
theorem grown_drew {w0 w : World} {r : Option Nat} (h : w0.grownBy w r) : w0.grownBy w.drew r := ⟨h.os, h.tape, h.output, h.size, h.block⟩

set_option maxHeartbeats 1000000 in
theorem reverse26 (g N off n c : Nat) (f : Nat → Int) (w : World) (hA : Arr w g N (fun j => .int .i64 (f j))) (hN : off + n ≤ N) (hn : n ≤ 1048576) (hpos : 0 < n) :
    Calls Try.prog 26 #[.slice (some ⟨g, off, none⟩) n c] w (RevQ g N off n f w) := by
  go_enter Try.func26, Try.ntmps26
  go_wp2
  go_loopw [2, 3] (fun i j wr => ∃ p : Nat, i = .int .i64 p ∧ j = .int .i64 ((n : Int) - 1 - (p : Int)) ∧ 2 * p ≤ n + 1 ∧ Arr wr g N (fun j => .int .i64 (rv f off n p j)) ∧ w.grownBy wr (some g)) (fun i j _ => (intOf j - intOf i + 1).toNat)
  case atStart => exact ⟨0, rfl, by simp, by omega, hA.congr (fun j _ => by rw [rv_zero]), ⟨rfl, rfl, rfl, Nat.le_refl _, fun _ _ _ => rfl⟩⟩
  case round =>
    obtain ⟨p, rfl, rfl, hp, hR, hG⟩ := hrel
    by_cases hlt : (p : Int) < (n : Int) - 1 - (p : Int)
    · obtain ⟨q, hq⟩ : ∃ q : Nat, (n : Int) - 1 - (p : Int) = (q : Int) := ⟨n - 1 - p, by omega⟩
      have hq2 : q = n - 1 - p := by omega
      have hpq : p < q := by omega
      have hqn : q < n := by omega
      have e1 : rv f off n p (off + p) = f (off + p) := by unfold rv; rw [if_neg (by omega)]
      have e2 : rv f off n p (off + q) = f (off + q) := by unfold rv; rw [if_neg (by omega)]
      have c1 := hR.cell (off + p) (by omega)
      have c2 := hR.cell (off + q) (by omega)
      have f1 := hR.free (off + p)
      have f2 := hR.free (off + q)
      rw [e1] at c1
      rw [e2] at c2
      have HST : Hid (∀ j, (if j = off + q then f (off + p) else if j = off + p then f (off + q) else rv f off n p j) = rv f off n (p + 1) j) := fun j => by rw [hq2]; exact rv_step f off n p j (by omega)
      have HQ2 : Hid (q = n - 1 - p) := hq2
      clear e1 e2 hq2 hA
      generalize f (off + p) = x at *
      generalize f (off + q) = y at *
      go_wp2
      go_region
      all_goals go_wp2
      go_roundw
      case rel => exact ⟨p + 1, by go_num, by go_num, by omega, (((hR.set (off + p) (by omega) _).set (off + q) (by omega) _).congr (fun j _ => by
        rw [← HST.out j]
        by_cases c1 : j = off + q
        · simp only [if_pos c1]
        · by_cases c2 : j = off + p
          · simp only [if_neg c1, if_pos c2]
          · simp only [if_neg c1, if_neg c2])).drew, grown_drew (grown_set (grown_set hG _ _) _ _)⟩
      case measure => simp [intOf]; omega
    · go_wp2
      go_end0
      exact ⟨rfl, hR.congr (fun j _ => by rw [rv_full f off n p j (by omega) hp]), hG⟩
end Go.Proofs.Qxb6601400a
