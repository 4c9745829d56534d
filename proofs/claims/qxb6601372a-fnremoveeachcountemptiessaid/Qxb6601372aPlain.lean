import Derived.Test.Qxb6601372aZZ
namespace Go.Proofs.Qxb6601372a

/-- What the table by mode holds behind m rounds. -/
def bef (ms ns : List Int) : Nat → Nat → Int
  | 0, _ => 0
  | m + 1, j => if ms.getD m 0 + 128 = (j : Int) then ns.getD m 0 else bef ms ns m j

theorem bef_step (ms ns : List Int) (m k : Nat) (hk : ms.getD m 0 + 128 = (k : Int)) (j : Nat) :
    (if j = k then Value.int .i64 (ns.getD m 0) else .int .i64 (bef ms ns m j)) = .int .i64 (bef ms ns (m + 1) j) := by
  rw [bef]
  by_cases c : j = k
  · subst c; rw [if_pos rfl, if_pos hk]
  · rw [if_neg c, if_neg (by omega)]

theorem bef_of {ms ns : List Int} : ∀ {m : Nat}, WF ms ns m → ∀ {i k : Nat}, i < m → ms.getD i 0 + 128 = (k : Int) → bef ms ns m k = ns.getD i 0
  | 0, _, i, k, hi, _ => by omega
  | m + 1, h, i, k, hi, hk => by
    rw [bef]
    by_cases c : i = m
    · subst c; rw [if_pos hk]
    · have hd := h.dist i m (by omega) (by omega)
      rw [if_neg (by omega)]
      exact bef_of ⟨fun i j a b => h.dist i j a (by omega), fun i a => h.pos i (by omega)⟩ (by omega) hk

theorem bef_no {ms ns : List Int} : ∀ {m : Nat} {k : Nat}, (∀ i, i < m → ms.getD i 0 + 128 ≠ (k : Int)) → bef ms ns m k = 0
  | 0, _, _ => rfl
  | m + 1, k, h => by
    rw [bef, if_neg (h m (by omega))]
    exact bef_no (fun i hi => h i (by omega))

/-- What is wanted of the table behind the removal. -/
def wantF (f : Nat → Int) (km k : Nat) : Int := if k = km ∧ 0 < f k then f k - 1 else f k

theorem rm_swap_m {ms : List Int} {i q : Nat} (hi : i < ms.length) (hq : q < ms.length - 1) :
    ((ms.set i (ms.getD (ms.length - 1) 0)).take (ms.length - 1)).getD q 0 = ms.getD (if q = i then ms.length - 1 else q) 0 := by
  rw [getD_take _ _ _ hq, getD_set _ _ _ _ (by omega)]
  by_cases c : q = i
  · rw [if_pos c, if_pos c]
  · rw [if_neg c, if_neg c]
theorem rm_swap_n {ns : List Int} {L i q : Nat} (hL : L = ns.length) (hi : i < L) (hq : q < L - 1) :
    ((ns.set i (ns.getD (L - 1) 0)).take (L - 1)).getD q 0 = ns.getD (if q = i then L - 1 else q) 0 := by
  rw [getD_take _ _ _ hq, getD_set _ _ _ _ (by omega)]
  by_cases c : q = i
  · rw [if_pos c, if_pos c]
  · rw [if_neg c, if_neg c]

structure RmFacts (ms ns : List Int) (mode : Int) (ms' ns' : List Int) (km : Nat) : Prop where
  len : ms'.length = ns'.length
  le : ms'.length ≤ ms.length
  wf : WF ms' ns' ms'.length
  rng : ∀ i, -128 ≤ ms'.getD i 0 ∧ ms'.getD i 0 ≤ 127
  rng2 : ∀ i, -2147483648 ≤ ns'.getD i 0 ∧ ns'.getD i 0 ≤ 2147483647
  tab : ∀ k, bef ms' ns' ms'.length k = wantF (bef ms ns ms.length) km k
  same : bef ms ns ms.length km ≠ 1 → ms' = ms

theorem getD_out (l : List Int) (i : Nat) (h : l.length ≤ i) : l.getD i 0 = 0 := by simp [h]

theorem rm_facts {ms ns : List Int} {mode : Int} {ms' ns' : List Int} {km : Nat} (hl : ms.length = ns.length) (hw : WF ms ns ms.length) (hr : ∀ i, -128 ≤ ms.getD i 0 ∧ ms.getD i 0 ≤ 127)
    (hr2 : ∀ i, -2147483648 ≤ ns.getD i 0 ∧ ns.getD i 0 ≤ 2147483647) (hkm : mode + 128 = (km : Int)) (h : Rm ms ns mode ms' ns') : RmFacts ms ns mode ms' ns' km := by
  have hlen := rm_len hl h
  rcases h with ⟨hno, rfl, rfl⟩ | ⟨i, hi, him, ⟨h2, rfl, rfl⟩ | ⟨h1, rfl, rfl⟩⟩
  · refine ⟨hlen, Nat.le_refl _, hw, hr, hr2, fun k => ?_, fun _ => rfl⟩
    unfold wantF
    by_cases c : k = km
    · subst c
      rw [bef_no (fun i hi => by have := hno i hi; omega)]; simp
    · rw [if_neg (by simp [c])]
  · have hns : ∀ q, q < ms'.length → (ns.set i (ns.getD i 0 - 1)).getD q 0 = if q = i then ns.getD i 0 - 1 else ns.getD q 0 := fun q hq => getD_set _ _ _ _ (by omega)
    have hw' : WF ms' (ns.set i (ns.getD i 0 - 1)) ms'.length := by
      refine ⟨hw.dist, fun q hq => ?_⟩
      rw [hns q hq]
      by_cases c : q = i
      · rw [if_pos c]; omega
      · rw [if_neg c]; exact hw.pos q hq
    refine ⟨hlen, Nat.le_refl _, hw', hr, fun q => ?_, fun k => ?_, fun _ => rfl⟩
    · by_cases c : q < ms'.length
      · rw [hns q c]
        by_cases c2 : q = i
        · rw [if_pos c2]; have := hr2 i; omega
        · rw [if_neg c2]; exact hr2 q
      · rw [getD_out _ _ (by simp; omega)]; omega
    · unfold wantF
      by_cases e : ∃ q, q < ms'.length ∧ ms'.getD q 0 + 128 = (k : Int)
      · obtain ⟨q, hq, hqk⟩ := e
        rw [bef_of hw' hq hqk, bef_of hw hq hqk, hns q hq]
        by_cases c : q = i
        · subst c
          rw [if_pos rfl, if_pos ⟨by omega, by omega⟩]
        · have hd : ms'.getD q 0 ≠ ms'.getD i 0 := by
            rcases Nat.lt_or_gt_of_ne c with a | a
            · exact hw.dist q i a hi
            · exact (hw.dist i q a hq).symm
          rw [if_neg c, if_neg (fun x => hd (by omega))]
      · have hno : ∀ q, q < ms'.length → ms'.getD q 0 + 128 ≠ (k : Int) := fun q hq x => e ⟨q, hq, x⟩
        rw [bef_no hno, bef_no hno]; simp
  · have hm := fun q (hq : q < ms.length - 1) => rm_swap_m hi hq
    have hn := fun q (hq : q < ms.length - 1) => rm_swap_n (L := ms.length) hl hi hq
    have hdist : ∀ a b, a < ms.length → b < ms.length → a ≠ b → ms.getD a 0 ≠ ms.getD b 0 := fun a b ha hb hab => by
      rcases Nat.lt_or_gt_of_ne hab with x | x
      · exact hw.dist a b x hb
      · exact (hw.dist b a x ha).symm
    generalize hM : (ms.set i (ms.getD (ms.length - 1) 0)).take (ms.length - 1) = M at *
    generalize hN : (ns.set i (ns.getD (ms.length - 1) 0)).take (ms.length - 1) = N at *
    have hML : M.length = ms.length - 1 := by rw [← hM]; simp
    have hw' : WF M N M.length := by
      refine ⟨fun p q hpq hq => ?_, fun q hq => ?_⟩
      · rw [hm p (by omega), hm q (by omega)]
        refine hdist _ _ ?_ ?_ ?_ <;> (repeat' split) <;> omega
      · rw [hn q (by omega)]
        refine hw.pos _ ?_
        split <;> omega
    refine ⟨hlen, by omega, hw', fun q => ?_, fun q => ?_, fun k => ?_, fun hne => ?_⟩
    · by_cases c : q < ms.length - 1
      · rw [hm q c]; exact hr _
      · rw [getD_out _ _ (by omega)]; omega
    · by_cases c : q < ms.length - 1
      · rw [hn q c]; exact hr2 _
      · rw [getD_out _ _ (by omega)]; omega
    · unfold wantF
      by_cases e : ∃ q, q < ms.length - 1 ∧ M.getD q 0 + 128 = (k : Int)
      · obtain ⟨q, hq, hqk⟩ := e
        rw [bef_of hw' (by omega) hqk, hn q hq]
        rw [hm q hq] at hqk
        have hlt : (if q = i then ms.length - 1 else q) < ms.length := by split <;> omega
        have hne : (if q = i then ms.length - 1 else q) ≠ i := by split <;> omega
        generalize (if q = i then ms.length - 1 else q) = p at *
        rw [bef_of hw hlt hqk]
        have hd := hdist _ i hlt hi hne
        rw [if_neg (fun x => hd (by omega))]
      · have hno : ∀ q, q < M.length → M.getD q 0 + 128 ≠ (k : Int) := fun q hq x => e ⟨q, by omega, x⟩
        rw [bef_no hno]
        by_cases c : k = km
        · subst c
          rw [bef_of hw hi (by omega), h1]; simp
        · rw [if_neg (by simp [c])]
          rw [bef_no]
          intro q hq x
          by_cases cl : q = ms.length - 1
          · have hil : i < ms.length - 1 := by
              rcases Nat.lt_or_ge i (ms.length - 1) with y | y
              · exact y
              · exfalso
                have : q = i := by omega
                subst this; omega
            have y := hno i (by omega)
            rw [hm i hil, if_pos rfl, ← cl] at y
            exact y x
          · have hqi : q ≠ i := fun y => by subst y; omega
            have y := hno q (by omega)
            rw [hm q (by omega), if_neg hqi] at y
            exact y x
    · exfalso
      apply hne
      rw [bef_of hw hi (by omega), h1]

/-- How many k below n have f k > 0. -/
def pres (f : Nat → Int) : Nat → Nat
  | 0 => 0
  | n + 1 => pres f n + if 0 < f n then 1 else 0
theorem pres_le (f : Nat → Int) : ∀ n, pres f n ≤ n
  | 0 => Nat.le_refl _
  | n + 1 => by have := pres_le f n; rw [pres]; split <;> omega
theorem pres_congr {f g : Nat → Int} : ∀ {n : Nat}, (∀ k, k < n → f k = g k) → pres f n = pres g n
  | 0, _ => rfl
  | n + 1, h => by rw [pres, pres, pres_congr (fun k hk => h k (by omega)), h n (by omega)]
theorem pres_upd {f g : Nat → Int} {k0 : Nat} : ∀ {n : Nat}, k0 < n → (∀ k, k < n → k ≠ k0 → g k = f k) → f k0 = 0 → 0 < g k0 → pres g n = pres f n + 1
  | 0, h, _, _, _ => by omega
  | n + 1, h, he, h0, hp => by
    rw [pres, pres]
    by_cases c : k0 = n
    · subst c
      rw [if_pos hp, h0, if_neg (by omega), pres_congr (fun k hk => he k (by omega) (by omega))]
    · rw [pres_upd (by omega) (fun k hk hne => he k (by omega) hne) h0 hp, he n (by omega) (by omega)]
      omega
theorem pres_zero : ∀ n, pres (fun _ => 0) n = 0
  | 0 => rfl
  | n + 1 => by rw [pres, pres_zero n]; rfl
theorem pres_bef {ms ns : List Int} (hr : ∀ i, -128 ≤ ms.getD i 0 ∧ ms.getD i 0 ≤ 127) : ∀ {m : Nat}, WF ms ns m → pres (bef ms ns m) 256 = m
  | 0, _ => pres_zero 256
  | m + 1, h => by
    have h' : WF ms ns m := ⟨fun i j a b => h.dist i j a (by omega), fun i a => h.pos i (by omega)⟩
    have ih := pres_bef hr h'
    have hrm := hr m
    obtain ⟨k, hk⟩ : ∃ k : Nat, ms.getD m 0 + 128 = (k : Int) := ⟨(ms.getD m 0 + 128).toNat, by omega⟩
    have hk2 : k < 256 := by omega
    rw [pres_upd (f := bef ms ns m) (k0 := k) hk2 ?_ ?_ ?_, ih]
    · intro j _ hj
      rw [bef, if_neg (by omega)]
    · refine bef_no (fun i hi x => h.dist i m hi (by omega) (by omega))
    · rw [bef, if_pos hk]
      have := h.pos m (by omega)
      omega

end Go.Proofs.Qxb6601372a
