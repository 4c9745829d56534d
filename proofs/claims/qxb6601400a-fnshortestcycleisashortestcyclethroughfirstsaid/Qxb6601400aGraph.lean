/-
  PLAIN MATHEMATICS of the shortest cycle through the first part. No Go here.
-/
import Derived.Test.Qxb6601400aBase
namespace Go.Proofs.Qxb6601400a

def rowOf (rs : List (List Int)) (v : Int) : List Int := rs.getD v.toNat []

/-- A walk of d steps from the first part to v, through the group, never back to the first. -/
def Walk (rs : List (List Int)) (gs : List Int) (first : Int) : Nat → Int → Prop
  | 0, v => v = first
  | d + 1, v => ∃ u, Walk rs gs first d u ∧ v ∈ rowOf rs u ∧ v ∈ gs ∧ v ≠ first

theorem Walk.mem {rs : List (List Int)} {gs : List Int} {first : Int} (h0 : first ∈ gs) : ∀ {d : Nat} {v : Int}, Walk rs gs first d v → v ∈ gs
  | 0, v, h => by rw [show v = first from h]; exact h0
  | d + 1, v, ⟨_, _, _, h, _⟩ => h

theorem getD_get (l : List Int) (t : Nat) (h : t < l.length) : l.getD t 0 = l[t] := by simp [h]

/-! ### Bellman and Ford -/

/-- How many k below n have 0 ≤ f k. -/
def seenN (f : Nat → Int) : Nat → Nat
  | 0 => 0
  | n + 1 => seenN f n + if 0 ≤ f n then 1 else 0
theorem seenN_le (f : Nat → Int) : ∀ n, seenN f n ≤ n
  | 0 => Nat.le_refl _
  | n + 1 => by have := seenN_le f n; rw [seenN]; split <;> omega
theorem seenN_congr {f g : Nat → Int} : ∀ {n : Nat}, (∀ k, k < n → (0 ≤ f k ↔ 0 ≤ g k)) → seenN f n = seenN g n
  | 0, _ => rfl
  | n + 1, h => by
    rw [seenN, seenN, seenN_congr (fun k hk => h k (by omega))]
    by_cases c : 0 ≤ f n
    · rw [if_pos c, if_pos ((h n (by omega)).1 c)]
    · rw [if_neg c, if_neg (fun x => c ((h n (by omega)).2 x))]
theorem seenN_new {f g : Nat → Int} {k0 : Nat} : ∀ {n : Nat}, k0 < n → (∀ k, k < n → k ≠ k0 → g k = f k) → ¬ 0 ≤ f k0 → 0 ≤ g k0 → seenN g n = seenN f n + 1
  | 0, h, _, _, _ => by omega
  | n + 1, h, he, h0, hp => by
    rw [seenN, seenN]
    by_cases c : k0 = n
    · subst c
      rw [if_pos hp, if_neg h0, seenN_congr (f := g) (g := f) (fun k hk => by rw [he k (by omega) (by omega)])]
    · rw [seenN_new (by omega) (fun k hk hne => he k (by omega) hne) h0 hp, he n (by omega) (by omega)]; omega

/-- The distances so far: each is that of a walk; each is below the number of parts reached. -/
structure Dist (rs : List (List Int)) (gs : List Int) (first : Int) (n : Nat) (f : Nat → Int) : Prop where
  low : ∀ k, k < n → -1 ≤ f k
  walk : ∀ k : Nat, k < n → 0 ≤ f k → Walk rs gs first (f k).toNat (k : Int)
  high : ∀ k, k < n → f k < (seenN f n : Int)

def setF (f : Nat → Int) (j : Nat) (v : Int) : Nat → Int := fun k => if k = j then v else f k
theorem setF_at (f : Nat → Int) (j : Nat) (v : Int) : setF f j v j = v := by unfold setF; rw [if_pos rfl]
theorem setF_ne (f : Nat → Int) (j : Nat) (v : Int) {k : Nat} (h : k ≠ j) : setF f j v k = f k := by unfold setF; rw [if_neg h]

/-- Nothing is lost. -/
def Better (n : Nat) (f0 f : Nat → Int) : Prop := ∀ k, k < n → 0 ≤ f0 k → 0 ≤ f k ∧ f k ≤ f0 k
theorem Better.refl (n : Nat) (f : Nat → Int) : Better n f f := fun _ _ h => ⟨h, Int.le_refl _⟩

theorem Dist.relax {rs : List (List Int)} {gs : List Int} {first : Int} {n : Nat} {f : Nat → Int} (h : Dist rs gs first n f) {i j : Nat} (hi : i < n) (hj : j < n) (hfi : 0 ≤ f i)
    (he : (j : Int) ∈ rowOf rs (i : Int)) (hg : (j : Int) ∈ gs) (hne : (j : Int) ≠ first) (hlt : f j < 0 ∨ f i + 1 < f j) : Dist rs gs first n (setF f j (f i + 1)) ∧ Better n f (setF f j (f i + 1)) := by
  have hw : Walk rs gs first (f i + 1).toNat (j : Int) := by
    rw [show (f i + 1).toNat = (f i).toNat + 1 from by omega]
    exact ⟨(i : Int), h.walk i hi hfi, he, hg, hne⟩
  have hhi := h.high i hi
  have hhj := h.high j hj
  have hsn : (seenN f n : Int) ≤ (seenN (setF f j (f i + 1)) n : Int) ∧ f i + 1 < (seenN (setF f j (f i + 1)) n : Int) := by
    by_cases c : 0 ≤ f j
    · have : seenN (setF f j (f i + 1)) n = seenN f n := seenN_congr (fun k _ => by
        by_cases e : k = j
        · subst e; rw [setF_at]; constructor <;> intro <;> omega
        · rw [setF_ne _ _ _ e])
      rw [this]; omega
    · have := seenN_new (f := f) (g := setF f j (f i + 1)) (k0 := j) (n := n) hj (fun k _ hk => setF_ne _ _ _ hk) c (by rw [setF_at]; omega)
      rw [this]; omega
  refine ⟨⟨fun k hk => ?_, fun k hk h0 => ?_, fun k hk => ?_⟩, fun k hk h0 => ?_⟩ <;> by_cases e : k = j
  · subst e; rw [setF_at]; omega
  · rw [setF_ne _ _ _ e]; exact h.low k hk
  · subst e; rw [setF_at]; exact hw
  · rw [setF_ne _ _ _ e] at h0 ⊢; exact h.walk k hk h0
  · subst e; rw [setF_at]; exact hsn.2
  · rw [setF_ne _ _ _ e]; have := h.high k hk; omega
  · subst e; rw [setF_at]; omega
  · rw [setF_ne _ _ _ e]; exact ⟨h0, Int.le_refl _⟩

theorem Better.trans {n : Nat} {f g h : Nat → Int} (a : Better n f g) (b : Better n g h) : Better n f h := fun k hk h0 => by
  have x := a k hk h0
  have y := b k hk x.1
  omega

/-- The edges from part i (its row's first b) are slack against the distances f0 at the round's start. -/
def Slack (rs : List (List Int)) (gs : List Int) (first : Int) (n : Nat) (f0 f : Nat → Int) (i : Int) (b : Nat) : Prop :=
  0 ≤ f0 i.toNat → ∀ t, t < b → t < (rowOf rs i).length → ∀ j : Nat, (rowOf rs i).getD t 0 = (j : Int) → j < n → (j : Int) ∈ gs → (j : Int) ≠ first → 0 ≤ f j ∧ f j ≤ f0 i.toNat + 1
theorem Slack.better {rs : List (List Int)} {gs : List Int} {first : Int} {n : Nat} {f0 f g : Nat → Int} {i : Int} {b : Nat} (h : Slack rs gs first n f0 f i b) (hb : Better n f g) : Slack rs gs first n f0 g i b := by
  intro h0 t ht htl j hj hjn hg hne
  have x := h h0 t ht htl j hj hjn hg hne
  have y := hb j hjn x.1
  omega

/-- Optimal for walks of at most r steps. -/
def Opt (rs : List (List Int)) (gs : List Int) (first : Int) (f : Nat → Int) (r : Nat) : Prop :=
  ∀ d, d ≤ r → ∀ v, Walk rs gs first d v → 0 ≤ f v.toNat ∧ f v.toNat ≤ (d : Int)

theorem opt_step {rs : List (List Int)} {gs : List Int} {first : Int} {n : Nat} {f0 f : Nat → Int} {r : Nat} (hgr : ∀ i, i < gs.length → 0 ≤ gs.getD i 0 ∧ gs.getD i 0 < (n : Int)) (h0 : first ∈ gs)
    (ho : Opt rs gs first f0 r) (hb : Better n f0 f) (hs : ∀ a, a < gs.length → Slack rs gs first n f0 f (gs.getD a 0) (rowOf rs (gs.getD a 0)).length) : Opt rs gs first f (r + 1) := by
  have hin : ∀ v, v ∈ gs → ∃ a, a < gs.length ∧ gs.getD a 0 = v := fun v hv => by
    obtain ⟨a, ha, rfl⟩ := List.mem_iff_getElem.1 hv
    exact ⟨a, ha, by simp [ha]⟩
  have hrng : ∀ v, v ∈ gs → 0 ≤ v ∧ v < (n : Int) := fun v hv => by
    obtain ⟨a, ha, rfl⟩ := hin v hv; exact hgr a ha
  intro d hd v hw
  cases d with
  | zero =>
    have x := ho 0 (by omega) v hw
    have hv : v = first := hw
    have y := hb v.toNat (by have := hrng v (by rw [hv]; exact h0); omega) x.1
    omega
  | succ d =>
    obtain ⟨u, hu, hrow, hg, hne⟩ := hw
    have x := ho d (by omega) u hu
    obtain ⟨a, ha, rfl⟩ := hin u (Walk.mem h0 hu)
    obtain ⟨t, ht, htv⟩ := List.mem_iff_getElem.1 hrow
    have hv := hrng v hg
    obtain ⟨j, rfl⟩ := Int.eq_ofNat_of_zero_le hv.1
    have y := hs a ha x.1 t ht ht j (by rw [getD_get _ _ ht]; exact htv) (by omega) hg hne
    rw [Int.toNat_natCast]
    omega

theorem opt_fix {rs : List (List Int)} {gs : List Int} {first : Int} {n : Nat} {f0 f : Nat → Int} {r : Nat} (hgr : ∀ i, i < gs.length → 0 ≤ gs.getD i 0 ∧ gs.getD i 0 < (n : Int)) (h0 : first ∈ gs)
    (ho : Opt rs gs first f0 r) (he : ∀ k, k < n → f k = f0 k) (hs : ∀ a, a < gs.length → Slack rs gs first n f0 f (gs.getD a 0) (rowOf rs (gs.getD a 0)).length) : ∀ s, Opt rs gs first f s
  | 0 => by
    intro d hd v hw
    obtain rfl : d = 0 := by omega
    have x := ho 0 (by omega) v hw
    have hv : v = first := hw
    obtain ⟨a, ha, hav⟩ := List.mem_iff_getElem.1 h0
    have := hgr a ha
    rw [he v.toNat (by simp [ha, hav] at this; rw [hv]; omega)]
    exact x
  | s + 1 => by
    have ih := opt_fix hgr h0 ho he hs s
    refine opt_step (f0 := f) hgr h0 ih (Better.refl n f) (fun a ha => ?_)
    intro h1 t ht htl j hj hjn hg hne
    have hga := hgr a ha
    have e := he (gs.getD a 0).toNat (by omega)
    rw [e] at h1
    rw [e]
    exact hs a ha h1 t ht htl j hj hjn hg hne

/-- The best so far. -/
structure Best (rs : List (List Int)) (gs : List Int) (first : Int) (f : Nat → Int) (a : Nat) (best : Int) : Prop where
  some_ : best = -1 ∨ ∃ a', a' < a ∧ 0 ≤ f (gs.getD a' 0).toNat ∧ first ∈ rowOf rs (gs.getD a' 0) ∧ best = f (gs.getD a' 0).toNat + 1
  all_ : ∀ a', a' < a → 0 ≤ f (gs.getD a' 0).toNat → first ∈ rowOf rs (gs.getD a' 0) → 0 ≤ best ∧ best ≤ f (gs.getD a' 0).toNat + 1

end Go.Proofs.Qxb6601400a
