import Derived.Test.Qxb6601372aPlain
namespace Go.Proofs.Qxb6601372a

/-- The sum of the first m. -/
def sumN (ns : List Int) : Nat → Int
  | 0 => 0
  | m + 1 => sumN ns m + ns.getD m 0
theorem sumN_bd {ns : List Int} (hr : ∀ i, -2147483648 ≤ ns.getD i 0 ∧ ns.getD i 0 ≤ 2147483647) : ∀ m : Nat, -2147483648 * (m : Int) ≤ sumN ns m ∧ sumN ns m ≤ 2147483647 * (m : Int)
  | 0 => by simp [sumN]
  | m + 1 => by have := sumN_bd hr m; have := hr m; rw [sumN]; omega

/-- The sum of a table below n. -/
def tsum (f : Nat → Int) : Nat → Int
  | 0 => 0
  | n + 1 => tsum f n + f n
theorem tsum_congr {f g : Nat → Int} : ∀ {n : Nat}, (∀ k, k < n → f k = g k) → tsum f n = tsum g n
  | 0, _ => rfl
  | n + 1, h => by rw [tsum, tsum, tsum_congr (fun k hk => h k (by omega)), h n (by omega)]
theorem tsum_upd {f g : Nat → Int} {k0 : Nat} {d : Int} : ∀ {n : Nat}, k0 < n → (∀ k, k < n → k ≠ k0 → g k = f k) → g k0 = f k0 + d → tsum g n = tsum f n + d
  | 0, h, _, _ => by omega
  | n + 1, h, he, hd => by
    rw [tsum, tsum]
    by_cases c : k0 = n
    · subst c
      rw [hd, tsum_congr (fun k hk => he k (by omega) (by omega))]; omega
    · rw [tsum_upd (by omega) (fun k hk hne => he k (by omega) hne) hd, he n (by omega) (by omega)]; omega
theorem tsum_zero : ∀ n, tsum (fun _ => 0) n = 0
  | 0 => rfl
  | n + 1 => by rw [tsum, tsum_zero n]; rfl
theorem tsum_bef {ms ns : List Int} (hr : ∀ i, -128 ≤ ms.getD i 0 ∧ ms.getD i 0 ≤ 127) : ∀ {m : Nat}, WF ms ns m → tsum (bef ms ns m) 256 = sumN ns m
  | 0, _ => tsum_zero 256
  | m + 1, h => by
    have h' : WF ms ns m := ⟨fun i j a b => h.dist i j a (by omega), fun i a => h.pos i (by omega)⟩
    have ih := tsum_bef hr h'
    have hrm := hr m
    obtain ⟨k, hk⟩ : ∃ k : Nat, ms.getD m 0 + 128 = (k : Int) := ⟨(ms.getD m 0 + 128).toNat, by omega⟩
    have h0 : bef ms ns m k = 0 := bef_no (fun i hi x => h.dist i m hi (by omega) (by omega))
    rw [sumN, ← ih]
    refine tsum_upd (k0 := k) (by omega) (fun j _ hj => ?_) ?_
    · rw [bef, if_neg (by omega)]
    · rw [bef, if_pos hk, h0]; omega

/-- The state of the two nested loops: at entry m, removed t times. -/
structure Cur (ms ns : List Int) (m : Nat) (t : Int) (cm cn : List Int) : Prop where
  len : cm.length = cn.length
  le : cm.length ≤ ms.length
  wf : WF cm cn cm.length
  rng : ∀ i, -128 ≤ cm.getD i 0 ∧ cm.getD i 0 ≤ 127
  rng2 : ∀ i, -2147483648 ≤ cn.getD i 0 ∧ cn.getD i 0 ≤ 2147483647
  tabIn : m < ms.length → ∀ j : Nat, ms.getD m 0 + 128 = (j : Int) → bef cm cn cm.length j = ns.getD m 0 - t
  tabAfter : ∀ q, m < q → q < ms.length → ∀ j : Nat, ms.getD q 0 + 128 = (j : Int) → bef cm cn cm.length j = ns.getD q 0
  tabOut : ∀ j : Nat, (∀ q, m ≤ q → q < ms.length → ms.getD q 0 + 128 ≠ (j : Int)) → bef cm cn cm.length j = 0

theorem Cur.start {ms ns : List Int} (hl : ms.length = ns.length) (hw : WF ms ns ms.length) (hr : ∀ i, -128 ≤ ms.getD i 0 ∧ ms.getD i 0 ≤ 127)
    (hr2 : ∀ i, -2147483648 ≤ ns.getD i 0 ∧ ns.getD i 0 ≤ 2147483647) : Cur ms ns 0 0 ms ns :=
  ⟨hl, Nat.le_refl _, hw, hr, hr2, fun h j hj => by rw [bef_of hw h hj]; omega, fun q _ h j hj => bef_of hw h hj, fun j h => bef_no (fun i hi => h i (by omega) hi)⟩

theorem Cur.step {ms ns : List Int} {m : Nat} {t : Int} {cm cn cm' cn' : List Int} (h : Cur ms ns m t cm cn) (hw : WF ms ns ms.length) (hr : ∀ i, -128 ≤ ms.getD i 0 ∧ ms.getD i 0 ≤ 127) (hm : m < ms.length) (ht : t < ns.getD m 0)
    (hR : Rm cm cn (ms.getD m 0) cm' cn') : Cur ms ns m (t + 1) cm' cn' ∧ sumN cn' cn'.length = sumN cn cn.length - 1 := by
  have hrm := hr m
  obtain ⟨km, hkm⟩ : ∃ km : Nat, ms.getD m 0 + 128 = (km : Int) := ⟨(ms.getD m 0 + 128).toNat, by omega⟩
  have F := rm_facts h.len h.wf h.rng h.rng2 hkm hR
  have hkv := h.tabIn hm km hkm
  have hin : bef cm' cn' cm'.length km = bef cm cn cm.length km - 1 := by
    rw [F.tab]; unfold wantF; rw [if_pos ⟨rfl, by omega⟩]
  have hoth : ∀ j, j ≠ km → bef cm' cn' cm'.length j = bef cm cn cm.length j := fun j hj => by
    rw [F.tab]; unfold wantF; rw [if_neg (fun x => hj x.1)]
  refine ⟨⟨F.len, Nat.le_trans F.le h.le, F.wf, F.rng, F.rng2, fun _ j hj => ?_, fun q hq hql j hj => ?_, fun j hj => ?_⟩, ?_⟩
  · obtain rfl : j = km := by omega
    rw [hin, hkv]; omega
  · have hne : j ≠ km := fun e => hw.dist m q hq hql (by omega)
    rw [hoth j hne]
    exact h.tabAfter q hq hql j hj
  · have hne : j ≠ km := fun e => hj m (Nat.le_refl _) hm (by omega)
    rw [hoth j hne]
    exact h.tabOut j hj
  · rw [← F.len, ← h.len, ← tsum_bef F.rng F.wf, ← tsum_bef h.rng h.wf]
    have := tsum_upd (f := bef cm cn cm.length) (g := bef cm' cn' cm'.length) (k0 := km) (d := -1) (n := 256) (by omega) (fun k _ hk => hoth k hk) (by rw [hin]; omega)
    rw [this]; omega

theorem Cur.next {ms ns : List Int} {m : Nat} {cm cn : List Int} (h : Cur ms ns m (ns.getD m 0) cm cn) : Cur ms ns (m + 1) 0 cm cn := by
  refine ⟨h.len, h.le, h.wf, h.rng, h.rng2, fun hm j hj => ?_, fun q hq hql j hj => h.tabAfter q (by omega) hql j hj, fun j hj => ?_⟩
  · rw [h.tabAfter (m + 1) (by omega) hm j hj]; omega
  · by_cases c : m < ms.length ∧ ms.getD m 0 + 128 = (j : Int)
    · rw [h.tabIn c.1 j c.2]; omega
    · refine h.tabOut j (fun q hq hql x => ?_)
      by_cases c2 : q = m
      · subst c2; exact c ⟨hql, x⟩
      · exact hj q (by omega) hql x

theorem Cur.done {ms ns : List Int} {m : Nat} {t : Int} {cm cn : List Int} (h : Cur ms ns m t cm cn) (hm : ms.length ≤ m) : cm = [] ∧ cn = [] := by
  have h0 : cm.length = 0 := by
    rcases Nat.eq_zero_or_pos cm.length with e | e
    · exact e
    · exfalso
      have hr := h.rng 0
      have hp := h.wf.pos 0 e
      obtain ⟨j, hj⟩ : ∃ j : Nat, cm.getD 0 0 + 128 = (j : Int) := ⟨(cm.getD 0 0 + 128).toNat, by omega⟩
      have a := bef_of h.wf e hj
      have b := h.tabOut j (fun q hq hql => by omega)
      omega
  have h1 : cn.length = 0 := by rw [← h.len]; exact h0
  exact ⟨List.length_eq_zero_iff.1 h0, List.length_eq_zero_iff.1 h1⟩
end Go.Proofs.Qxb6601372a
