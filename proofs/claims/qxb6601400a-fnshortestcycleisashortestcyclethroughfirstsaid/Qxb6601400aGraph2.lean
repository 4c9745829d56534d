import Derived.Test.Qxb6601400aGraph
namespace Go.Proofs.Qxb6601400a

/-- In the middle of a round: the parts before a are done. -/
structure Mid (rs : List (List Int)) (gs : List Int) (first : Int) (n : Nat) (f0 f : Nat → Int) (c : Bool) (a : Nat) : Prop where
  dist : Dist rs gs first n f
  better : Better n f0 f
  same : c = false → ∀ k, k < n → f k = f0 k
  slack : ∀ a', a' < a → Slack rs gs first n f0 f (gs.getD a' 0) (rowOf rs (gs.getD a' 0)).length

variable {rs : List (List Int)} {gs : List Int} {first : Int} {n : Nat} {f0 f : Nat → Int} {c : Bool} {a : Nat}

theorem Mid.start (h : Dist rs gs first n f) : Mid rs gs first n f f false 0 := ⟨h, Better.refl n f, fun _ _ _ => rfl, fun a' h => by omega⟩
theorem Mid.done (h : Mid rs gs first n f0 f c a) (hs : Slack rs gs first n f0 f (gs.getD a 0) (rowOf rs (gs.getD a 0)).length) : Mid rs gs first n f0 f c (a + 1) :=
  ⟨h.dist, h.better, h.same, fun a' ha' => by
    by_cases e : a' = a
    · subst e; exact hs
    · exact h.slack a' (by omega)⟩
theorem Mid.skip (h : Mid rs gs first n f0 f c a) (hlt : (gs.getD a 0).toNat < n) (hneg : f (gs.getD a 0).toNat < 0) : Mid rs gs first n f0 f c (a + 1) :=
  h.done (fun h0 => by have := h.better _ hlt h0; omega)
theorem slack_zero (i : Int) : Slack rs gs first n f0 f i 0 := fun _ t ht => by omega
theorem slack_skip {i : Int} {t : Nat} (h : Slack rs gs first n f0 f i t) (hno : ∀ j : Nat, (rowOf rs i).getD t 0 = (j : Int) → j < n → (j : Int) ∈ gs → (j : Int) ≠ first → 0 ≤ f0 i.toNat → 0 ≤ f j ∧ f j ≤ f0 i.toNat + 1) : Slack rs gs first n f0 f i (t + 1) := by
  intro h0 s hs hsl j hj hjn hg hne
  by_cases e : s = t
  · subst e; exact hno j hj hjn hg hne h0
  · exact h h0 s (by omega) hsl j hj hjn hg hne
theorem Mid.relax (h : Mid rs gs first n f0 f c a) {i j t : Nat} (hs : Slack rs gs first n f0 f (i : Int) t) (hi : i < n) (hj : j < n) (hfi : 0 ≤ f i) (ht : t < (rowOf rs (i : Int)).length) (hjt : (rowOf rs (i : Int)).getD t 0 = (j : Int))
    (hg : (j : Int) ∈ gs) (hne : (j : Int) ≠ first) (hlt : f j < 0 ∨ f i + 1 < f j) :
    Mid rs gs first n f0 (setF f j (f i + 1)) true a ∧ Slack rs gs first n f0 (setF f j (f i + 1)) (i : Int) (t + 1) ∧ 0 ≤ setF f j (f i + 1) i := by
  have he : (j : Int) ∈ rowOf rs (i : Int) := by rw [← hjt, getD_get _ _ ht]; exact List.getElem_mem ht
  obtain ⟨h1, h2⟩ := h.dist.relax hi hj hfi he hg hne hlt
  refine ⟨⟨h1, h.better.trans h2, (fun x => by cases x), fun a' ha' => (h.slack a' ha').better h2⟩, ?_, (h2 i hi hfi).1⟩
  refine slack_skip (hs.better h2) (fun j' hj' hjn' hg' hne' h0 => ?_)
  obtain rfl : j' = j := by omega
  rw [setF_at]
  have := h.better i hi (by simpa using h0)
  rw [Int.toNat_natCast]
  omega

theorem dist_start {fN : Nat} (hf : fN < n) : Dist rs gs (fN : Int) n (setF (fun _ => -1) fN 0) ∧ Opt rs gs (fN : Int) (setF (fun _ => -1) fN 0) 0 := by
  have hs : seenN (setF (fun _ => -1) fN 0) n = seenN (fun _ => -1) n + 1 := seenN_new hf (fun k _ hk => setF_ne _ _ _ hk) (by omega) (by rw [setF_at]; omega)
  refine ⟨⟨fun k hk => ?_, fun k hk h0 => ?_, fun k hk => ?_⟩, fun d hd v hw => ?_⟩
  · by_cases e : k = fN
    · subst e; rw [setF_at]; omega
    · rw [setF_ne _ _ _ e]; omega
  · by_cases e : k = fN
    · subst e; rw [setF_at]; rfl
    · rw [setF_ne _ _ _ e] at h0; omega
  · by_cases e : k = fN
    · subst e; rw [setF_at, hs]; omega
    · rw [setF_ne _ _ _ e, hs]; omega
  · obtain rfl : d = 0 := by omega
    have hv : v = (fN : Int) := hw
    rw [hv, Int.toNat_natCast, setF_at]; omega

theorem best_start : Best rs gs first f 0 (-1) := ⟨.inl rfl, fun a' h => by omega⟩
theorem Best.skip {best : Int} (h : Best rs gs first f a best) (hno : ¬ (0 ≤ f (gs.getD a 0).toNat ∧ first ∈ rowOf rs (gs.getD a 0))) : Best rs gs first f (a + 1) best := by
  refine ⟨?_, fun a' ha' h0 hf => ?_⟩
  · rcases h.some_ with e | ⟨a', ha', x⟩
    · exact .inl e
    · exact .inr ⟨a', by omega, x⟩
  · by_cases e : a' = a
    · subst e; exact absurd ⟨h0, hf⟩ hno
    · exact h.all_ a' (by omega) h0 hf
theorem Best.keep {best : Int} (h : Best rs gs first f a best) (h0 : 0 ≤ best) (hle : best ≤ f (gs.getD a 0).toNat + 1) : Best rs gs first f (a + 1) best := by
  refine ⟨?_, fun a' ha' h1 hf => ?_⟩
  · rcases h.some_ with e | ⟨a', ha', x⟩
    · exact .inl e
    · exact .inr ⟨a', by omega, x⟩
  · by_cases e : a' = a
    · subst e; exact ⟨h0, hle⟩
    · exact h.all_ a' (by omega) h1 hf
theorem Best.take {best : Int} (h : Best rs gs first f a best) (h0 : 0 ≤ f (gs.getD a 0).toNat) (hf : first ∈ rowOf rs (gs.getD a 0)) (hlt : best < 0 ∨ f (gs.getD a 0).toNat + 1 < best) : Best rs gs first f (a + 1) (f (gs.getD a 0).toNat + 1) := by
  refine ⟨.inr ⟨a, by omega, h0, hf, rfl⟩, fun a' ha' h1 hf1 => ?_⟩
  by_cases e : a' = a
  · subst e; omega
  · have := h.all_ a' (by omega) h1 hf1; omega

/-- What the relaxation says in the end. -/
def BestLen (rs : List (List Int)) (gs : List Int) (first : Int) (best : Int) : Prop :=
  (best < 0 ∨ ∃ (d : Nat) (v : Int), best = (d : Int) + 1 ∧ Walk rs gs first d v ∧ first ∈ rowOf rs v) ∧ (∀ (d : Nat) (v : Int), d ≤ gs.length → Walk rs gs first d v → first ∈ rowOf rs v → 0 ≤ best ∧ best ≤ (d : Int) + 1)

theorem bestLen {best : Int} (hgr : ∀ i, i < gs.length → 0 ≤ gs.getD i 0 ∧ gs.getD i 0 < (n : Int)) (h0 : first ∈ gs) (hd : Dist rs gs first n f) (ho : Opt rs gs first f gs.length) (hb : Best rs gs first f gs.length best) : BestLen rs gs first best := by
  refine ⟨?_, fun d v hdl hw hf => ?_⟩
  · rcases hb.some_ with e | ⟨a', ha', x, y, z⟩
    · exact .inl (by omega)
    · have hg := hgr a' ha'
      have hw := hd.walk (gs.getD a' 0).toNat (by omega) x
      rw [Int.toNat_of_nonneg hg.1] at hw
      exact .inr ⟨(f (gs.getD a' 0).toNat).toNat, gs.getD a' 0, by omega, hw, y⟩
  · have x := ho d hdl v hw
    obtain ⟨a', ha', hav⟩ := List.mem_iff_getElem.1 (Walk.mem h0 hw)
    have e : gs.getD a' 0 = v := by rw [getD_get _ _ ha']; exact hav
    have y := hb.all_ a' ha' (by rw [e]; exact x.1) (by rw [e]; exact hf)
    rw [e] at y
    omega
end Go.Proofs.Qxb6601400a
