import Derived.Test.Qxb6601372aWf
namespace Go.Proofs.Qxb6601372a
open Go.RowKit

/-- The cells of a row of pairs. -/
def pairF (ms ns : List Int) (i : Nat) : Value := if i % 2 = 0 then .int .i8 (ms.getD (i / 2) 0) else .int .i32 (ns.getD (i / 2) 0)
theorem pairF_even (ms ns : List Int) (i : Nat) : pairF ms ns (i * 2) = .int .i8 (ms.getD i 0) := by
  unfold pairF; rw [if_pos (by omega), show i * 2 / 2 = i from by omega]
theorem pairF_odd (ms ns : List Int) (i : Nat) : pairF ms ns (i * 2 + 1) = .int .i32 (ns.getD i 0) := by
  unfold pairF; rw [if_neg (by omega), show (i * 2 + 1) / 2 = i from by omega]

theorem getD_set (l : List Int) (m : Nat) (v : Int) (q : Nat) (hq : q < l.length) : (l.set m v).getD q 0 = if q = m then v else l.getD q 0 := by
  by_cases c : q = m
  · subst c; simp [hq]
  · simp [c, Ne.symm c]
theorem getD_take (l : List Int) (n q : Nat) (hq : q < n) : (l.take n).getD q 0 = l.getD q 0 := by
  simp [hq]
theorem pair_cases (ms ns : List Int) (j : Nat) (P : Nat → Value → Prop) (h0 : ∀ q, j = q * 2 → P j (.int .i8 (ms.getD q 0))) (h1 : ∀ q, j = q * 2 + 1 → P j (.int .i32 (ns.getD q 0))) : P j (pairF ms ns j) := by
  by_cases c : j % 2 = 0
  · obtain ⟨q, rfl⟩ : ∃ q, j = q * 2 := ⟨j / 2, by omega⟩
    rw [pairF_even]; exact h0 q rfl
  · obtain ⟨q, rfl⟩ : ∃ q, j = q * 2 + 1 := ⟨j / 2, by omega⟩
    rw [pairF_odd]; exact h1 q rfl
theorem pair_two (ms ns : List Int) (hl : ms.length = ns.length) (m : Nat) (y : Int) (j : Nat) (hj : j < 2 * ms.length) :
    (if j = m * 2 + 1 then Value.int .i32 (y - 1) else pairF ms ns j) = pairF ms (ns.set m (y - 1)) j := by
  refine pair_cases ms (ns.set m (y - 1)) j (fun j v => (if j = m * 2 + 1 then Value.int .i32 (y - 1) else pairF ms ns j) = v) (fun q hq => ?_) (fun q hq => ?_)
  · subst hq; rw [if_neg (by omega), pairF_even]
  · subst hq
    rw [getD_set _ _ _ _ (by omega), pairF_odd]
    by_cases c : q = m
    · subst c; simp
    · rw [if_neg (by omega), if_neg c]
theorem pair_one (ms ns : List Int) (hl : ms.length = ns.length) (m : Nat) (zl yl y0 y1 : Int) (hy : m < ms.length - 1 → yl = y0) (j : Nat) (hj : j < 2 * (ms.length - 1)) :
    (if j = m * 2 + 1 then Value.int .i32 yl else if j = m * 2 then .int .i8 zl else if j = m * 2 + 1 then .int .i32 y1 else pairF ms ns j) = pairF ((ms.set m zl).take (ms.length - 1)) ((ns.set m y0).take (ms.length - 1)) j := by
  refine pair_cases _ _ j (fun j v => (if j = m * 2 + 1 then Value.int .i32 yl else if j = m * 2 then .int .i8 zl else if j = m * 2 + 1 then .int .i32 y1 else pairF ms ns j) = v) (fun q hq => ?_) (fun q hq => ?_)
  · subst hq
    rw [if_neg (by omega), getD_take _ _ _ (by omega), getD_set _ _ _ _ (by omega), pairF_even]
    by_cases c : q = m
    · subst c; rw [if_pos rfl, if_pos rfl]
    · rw [if_neg (by omega), if_neg (by omega), if_neg c]
  · subst hq
    rw [getD_take _ _ _ (by omega), getD_set _ _ _ _ (by omega), pairF_odd]
    by_cases c : q = m
    · subst c; rw [if_pos rfl, if_pos rfl, hy (by omega)]
    · rw [if_neg (by omega), if_neg (by omega), if_neg (by omega), if_neg c]

def Rm (ms ns : List Int) (mode : Int) (ms' ns' : List Int) : Prop :=
  ((∀ i, i < ms.length → ms.getD i 0 ≠ mode) ∧ ms' = ms ∧ ns' = ns) ∨
  ∃ i, i < ms.length ∧ ms.getD i 0 = mode ∧
    ((2 ≤ ns.getD i 0 ∧ ms' = ms ∧ ns' = ns.set i (ns.getD i 0 - 1)) ∨
     (ns.getD i 0 = 1 ∧ ms' = (ms.set i (ms.getD (ms.length - 1) 0)).take (ms.length - 1) ∧ ns' = (ns.set i (ns.getD (ms.length - 1) 0)).take (ms.length - 1)))

def RmQ (B C g : Nat) (w : World) (ms ns : List Int) (mode : Int) (e : Ending) (w' : World) : Prop :=
  e = .returned (.tuple #[]) ∧ ∃ ms' ns' f cap, Rm ms ns mode ms' ns' ∧ w'.cell? ⟨C, 0, none⟩ = some (.slice (some ⟨g, 0, none⟩) ms'.length cap) ∧
    Arr w' g (2 * ms.length) f ∧ (∀ i, i < 2 * ms'.length → f i = pairF ms' ns' i) ∧ ms'.length ≤ ms.length ∧ Below B w w'

theorem cell_far (w : World) (C g j : Nat) (v : Value) (h : C ≠ g) : (w.setCell ⟨g, j, none⟩ v).cell? ⟨C, 0, none⟩ = w.cell? ⟨C, 0, none⟩ :=
  World.cell?_setCell_other w _ _ v (by intro e; injection e; omega)

set_option maxHeartbeats 1000000 in
theorem remove (B C g cap : Nat) (ms ns : List Int) (mode : Int) (w : World) (hl : ms.length = ns.length) (hn : ms.length ≤ 1048576) (hC : B ≤ C) (hg : B ≤ g) (hCg : C ≠ g)
    (hc : w.cell? ⟨C, 0, none⟩ = some (.slice (some ⟨g, 0, none⟩) ms.length cap)) (hf : w.frozen? ⟨C, 0, none⟩ = false) (hcap : ms.length ≤ cap)
    (hA : Arr w g (2 * ms.length) (pairF ms ns)) (hp : ∀ i, i < ms.length → 1 ≤ ns.getD i 0) (hp2 : ∀ i, ns.getD i 0 ≤ 2147483647)  :
    Calls Try.prog 32 #[.pointer (some ⟨C, 0, none⟩), .int .i8 mode] w (RmQ B C g w ms ns mode) := by
  have HL : Hid (ms.length = ns.length) := hl
  clear hl
  go_enter Try.func32, Try.ntmps32
  go_wp2
  go_loop [12] (fun i => ∃ m : Nat, m ≤ ms.length ∧ i = .int .i64 m ∧ (∀ i, i < m → ms.getD i 0 ≠ mode)) (fun i => ms.length - (intOf i).toNat)
  case atStart => exact ⟨0, Nat.zero_le _, rfl, fun i h => by omega⟩
  case round =>
    obtain ⟨m, hm, rfl, hno⟩ := hrel
    have HN : Hid (∀ i, i < m → ms.getD i 0 ≠ mode) := hno
    clear hno
    by_cases hlt : m < ms.length
    · have c0 : w.cell? ⟨g, m * 2, none⟩ = some (.int .i8 (ms.getD m 0)) := by rw [hA.cell (m * 2) (by omega), pairF_even]
      have c1 : w.cell? ⟨g, m * 2 + 1, none⟩ = some (.int .i32 (ns.getD m 0)) := by rw [hA.cell (m * 2 + 1) (by omega), pairF_odd]
      have f1 := hA.free (m * 2 + 1)
      have f0 := hA.free (m * 2)
      have hpm := hp m hlt
      have hpm2 := hp2 m
      clear hp hp2
      generalize hz : ms.getD m 0 = z at *
      generalize hy : ns.getD m 0 = y at *
      have HZ : Hid (ms.getD m 0 = z) := hz
      have HY : Hid (ns.getD m 0 = y) := hy
      clear hz hy
      cases hzm : (z != mode)
      · have hzm' : z = mode := by simpa using hzm
        cases hy1 : (y - 1 == 0)
        · go_wp2
          go_end0
          have hy2 : ¬ y = 1 := fun e => by subst e; simp at hy1
          exact ⟨rfl, ms, ns.set m (y - 1), _, _, .inr ⟨m, hlt, HZ.out.trans hzm', .inl ⟨by rw [HY.out]; omega, rfl, by rw [HY.out]⟩⟩, by rw [World.cell?_setCell_other w _ _ _ (by intro h; injection h; omega)]; exact hc, hA.set (m * 2 + 1) (by omega) _, fun i hi => pair_two ms ns HL.out m y i hi, Nat.le_refl _, (Below.refl _ _).setCell hg _⟩
        · have hA1 := hA.set (m * 2 + 1) (by omega) (.int .i32 (y - 1))
          have d0 : (w.setCell ⟨g, m * 2 + 1, none⟩ (.int .i32 (y - 1))).cell? ⟨g, (ms.length - 1) * 2, none⟩ = some (.int .i8 (ms.getD (ms.length - 1) 0)) := by
            rw [hA1.cell _ (by omega), if_neg (by omega), pairF_even]
          obtain ⟨yl, d1, hyl⟩ : ∃ yl : Int, (w.setCell ⟨g, m * 2 + 1, none⟩ (.int .i32 (y - 1))).cell? ⟨g, (ms.length - 1) * 2 + 1, none⟩ = some (.int .i32 yl) ∧ (m < ms.length - 1 → yl = ns.getD (ms.length - 1) 0) := by
            by_cases c : m = ms.length - 1
            · exact ⟨y - 1, by rw [hA1.cell _ (by omega), if_pos (by omega)], fun h => by omega⟩
            · exact ⟨_, by rw [hA1.cell _ (by omega), if_neg (by omega), pairF_odd], fun _ => rfl⟩
          have HYL : Hid (m < ms.length - 1 → yl = ns.getD (ms.length - 1) 0) := hyl
          generalize hzl : ms.getD (ms.length - 1) 0 = zl at *
          have HZL : Hid (ms.getD (ms.length - 1) 0 = zl) := hzl
          clear hyl hzl hA1
          go_wp2
          go_end0
          have hy2 : y = 1 := by have : y - 1 = 0 := by simpa using hy1
                                 omega
          refine ⟨rfl, (ms.set m zl).take (ms.length - 1), (ns.set m (ns.getD (ms.length - 1) 0)).take (ms.length - 1), _, cap, .inr ⟨m, hlt, HZ.out.trans hzm', .inr ⟨by rw [HY.out]; exact hy2, by rw [HZL.out], rfl⟩⟩, ?_, (((hA.set (m * 2 + 1) (by omega) _).set (m * 2) (by omega) _).set (m * 2 + 1) (by omega) _).other hCg _, fun i hi => pair_one ms ns HL.out m zl yl _ _ HYL.out i (by simpa using hi), by simp, ?_⟩
          · rw [World.cell?_setCell_same _ _ _ (by rw [cell_far _ _ _ _ _ hCg, cell_far _ _ _ _ _ hCg, cell_far _ _ _ _ _ hCg]; exact hc)]
            rw [show (List.take (ms.length - 1) (ms.set m zl)).length = ms.length - 1 from by simp]
          · exact ((((Below.refl _ _).setCell hg _).setCell hg _).setCell hg _).setCell hC _
      · have hzm' : z ≠ mode := by simpa using hzm
        go_wp2
        go_round
        case rel => exact ⟨m + 1, by omega, by go_num, fun i hi => by
          by_cases c : i = m
          · subst c; rw [HZ.out]; exact hzm'
          · exact HN.out i (by omega)⟩
        case measure => simp [intOf]; omega
    · obtain rfl : m = ms.length := by omega
      go_wp2
      go_end0
      exact ⟨rfl, ms, ns, _, _, .inl ⟨HN.out, rfl, rfl⟩, hc, hA, fun i _ => rfl, Nat.le_refl _, Below.refl _ _⟩
end Go.Proofs.Qxb6601372a
