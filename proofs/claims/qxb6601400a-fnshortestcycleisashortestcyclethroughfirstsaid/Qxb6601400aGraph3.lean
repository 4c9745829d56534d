import Derived.Test.Qxb6601400aGraph2
namespace Go.Proofs.Qxb6601400a

/-- A list without repeats whose numbers all lie on another is no longer than it. -/
theorem nodup_le : ∀ (l g : List Int), l.Nodup → (∀ x, x ∈ l → x ∈ g) → l.length ≤ g.length
  | [], _, _, _ => Nat.zero_le _
  | x :: l, g, hn, hs => by
    have hx : x ∈ g := hs x (by simp)
    have hn' := List.nodup_cons.1 hn
    have ih := nodup_le l (g.erase x) hn'.2 (fun y hy => by
      have hne : y ≠ x := fun e => hn'.1 (by rw [← e]; exact hy)
      exact (List.mem_erase_of_ne hne).2 (hs y (by simp [hy])))
    rw [List.length_erase_of_mem hx] at ih
    have : 0 < g.length := List.length_pos_of_mem hx
    simp only [List.length_cons]
    omega

theorem nodup_inj {l : List Int} (h : l.Nodup) {i j : Nat} (hi : i < l.length) (hj : j < l.length) (e : l[i] = l[j]) : i = j := by
  have hp := List.pairwise_iff_getElem.1 h
  rcases Nat.lt_trichotomy i j with x | x | x
  · exact absurd e (hp i j hi hj x)
  · exact x
  · exact absurd e.symm (hp j i hj hi x)

/-- The state of the breadth-first search: Q: all that were ever put on the queue; h: how many were taken off; c: how much of the row in hand is done; m: the map. -/
structure Bfs (rs : List (List Int)) (gs : List Int) (first : Int) (Q : List Int) (dep par : Nat → Nat) (m : Int → Option Int) (h c : Nat) : Prop where
  len : 1 ≤ Q.length
  head : Q.getD 0 0 = first
  dep0 : dep 0 = 0
  par0 : par 0 = 0
  nodup : Q.Nodup
  grp : ∀ t, t < Q.length → Q.getD t 0 ∈ gs
  parent : ∀ t, 1 ≤ t → t < Q.length → par t < t ∧ par t ≤ h ∧ Q.getD t 0 ∈ rowOf rs (Q.getD (par t) 0) ∧ dep t = dep (par t) + 1
  mono : ∀ s t, s ≤ t → t < Q.length → dep s ≤ dep t
  wide : h < Q.length → ∀ t, t < Q.length → dep t ≤ dep h + 1
  mapIn : ∀ t, t < Q.length → m (Q.getD t 0) = some (Q.getD (par t) 0)
  mapOut : ∀ k, m k ≠ none → k ∈ Q
  done : ∀ s, s < h → s < Q.length → ∀ j, j ∈ rowOf rs (Q.getD s 0) → j ≠ first ∧ (j ∈ gs → ∃ t, t < Q.length ∧ Q.getD t 0 = j ∧ dep t ≤ dep s + 1)
  cur : h < Q.length → ∀ i, i < c → i < (rowOf rs (Q.getD h 0)).length → (rowOf rs (Q.getD h 0)).getD i 0 ≠ first ∧ ((rowOf rs (Q.getD h 0)).getD i 0 ∈ gs → ∃ t, t < Q.length ∧ Q.getD t 0 = (rowOf rs (Q.getD h 0)).getD i 0 ∧ dep t ≤ dep h + 1)

variable {rs : List (List Int)} {gs : List Int} {first : Int} {Q : List Int} {dep par : Nat → Nat} {m : Int → Option Int} {h c : Nat}

def putM (m : Int → Option Int) (k v : Int) : Int → Option Int := fun x => if x = k then some v else m x

theorem Bfs.start (h0 : first ∈ gs) : Bfs rs gs first [first] (fun _ => 0) (fun _ => 0) (putM (fun _ => none) first first) 0 0 := by
  refine ⟨by simp, rfl, rfl, rfl, by simp, fun t ht => ?_, fun t h1 h2 => by simp at h2; omega, fun s t _ _ => Nat.le_refl _, fun _ t _ => Nat.zero_le _, fun t ht => ?_, fun k hk => ?_, fun s hs => by omega, fun _ i hi => by omega⟩
  · obtain rfl : t = 0 := by simp at ht; omega
    exact h0
  · obtain rfl : t = 0 := by simp at ht; omega
    simp [putM]
  · unfold putM at hk
    by_cases e : k = first
    · simp [e]
    · rw [if_neg e] at hk; exact absurd rfl hk

theorem Bfs.le (b : Bfs rs gs first Q dep par m h c) : Q.length ≤ gs.length :=
  nodup_le Q gs b.nodup (fun x hx => by
    obtain ⟨t, ht, rfl⟩ := List.mem_iff_getElem.1 hx
    have := b.grp t ht
    rwa [getD_get _ _ ht] at this)

/-- The next in the row is no news. -/
theorem Bfs.skip (b : Bfs rs gs first Q dep par m h c) (hne : (rowOf rs (Q.getD h 0)).getD c 0 ≠ first) (hold : m ((rowOf rs (Q.getD h 0)).getD c 0) ≠ none ∨ (rowOf rs (Q.getD h 0)).getD c 0 ∉ gs) : Bfs rs gs first Q dep par m h (c + 1) := by
  refine ⟨b.len, b.head, b.dep0, b.par0, b.nodup, b.grp, b.parent, b.mono, b.wide, b.mapIn, b.mapOut, b.done, fun hh i hi hil => ?_⟩
  by_cases e : i = c
  · subst e
    refine ⟨hne, fun hg => ?_⟩
    rcases hold with hm | hm
    · obtain ⟨t, ht, hte⟩ := List.mem_iff_getElem.1 (b.mapOut _ hm)
      exact ⟨t, ht, by rw [getD_get _ _ ht]; exact hte, b.wide hh t ht⟩
    · exact absurd hg hm
  · exact b.cur hh i (by omega) hil

def setN (f : Nat → Nat) (j v : Nat) : Nat → Nat := fun k => if k = j then v else f k
theorem setN_at (f : Nat → Nat) (j v : Nat) : setN f j v j = v := by unfold setN; rw [if_pos rfl]
theorem setN_ne (f : Nat → Nat) (j v : Nat) {k : Nat} (h : k ≠ j) : setN f j v k = f k := by unfold setN; rw [if_neg h]
theorem getD_app (l : List Int) (x : Int) (t : Nat) (ht : t < l.length) : (l ++ [x]).getD t 0 = l.getD t 0 := by simp [List.getElem?_append_left ht]
theorem getD_app_last (l : List Int) (x : Int) : (l ++ [x]).getD l.length 0 = x := by simp

/-- The next in the row is put on the queue. -/
theorem Bfs.push (b : Bfs rs gs first Q dep par m h c) (hh : h < Q.length) (hc : c < (rowOf rs (Q.getD h 0)).length) {j : Int} (hj : (rowOf rs (Q.getD h 0)).getD c 0 = j) (hne : j ≠ first) (hnew : m j = none) (hg : j ∈ gs) :
    Bfs rs gs first (Q ++ [j]) (setN dep Q.length (dep h + 1)) (setN par Q.length h) (putM m j (Q.getD h 0)) h (c + 1) := by
  have hjQ : j ∉ Q := fun hx => by
    obtain ⟨t, ht, hte⟩ := List.mem_iff_getElem.1 hx
    have := b.mapIn t ht
    rw [getD_get _ _ ht, hte, hnew] at this
    cases this
  have hl : (Q ++ [j]).length = Q.length + 1 := by simp
  have hgq : ∀ t, t < Q.length → (Q ++ [j]).getD t 0 = Q.getD t 0 := fun t ht => getD_app Q j t ht
  have hneq : ∀ t, t < Q.length → t ≠ Q.length := fun t ht => by omega
  have hmono : ∀ s t, s ≤ t → t < (Q ++ [j]).length → setN dep Q.length (dep h + 1) s ≤ setN dep Q.length (dep h + 1) t := fun s t hst ht => by
    rw [hl] at ht
    by_cases e : t = Q.length
    · subst e; rw [setN_at]
      by_cases e2 : s = Q.length
      · subst e2; rw [setN_at]; exact Nat.le_refl _
      · rw [setN_ne _ _ _ e2]; exact b.wide hh s (by omega)
    · rw [setN_ne _ _ _ e, setN_ne _ _ _ (show s ≠ Q.length by omega)]; exact b.mono s t hst (by omega)
  have hlift : ∀ (v : Int) (D : Nat), (∃ t, t < Q.length ∧ Q.getD t 0 = v ∧ dep t ≤ D) → ∃ t, t < (Q ++ [j]).length ∧ (Q ++ [j]).getD t 0 = v ∧ setN dep Q.length (dep h + 1) t ≤ D := fun v D ⟨t, ht, h1, h2⟩ =>
    ⟨t, by omega, by rw [hgq t ht]; exact h1, by rw [setN_ne _ _ _ (hneq t ht)]; exact h2⟩
  refine ⟨by omega, by rw [hgq 0 (by have := b.len; omega)]; exact b.head, by rw [setN_ne _ _ _ (by have := b.len; omega)]; exact b.dep0, by rw [setN_ne _ _ _ (by have := b.len; omega)]; exact b.par0, ?_, fun t ht => ?_, fun t h1 ht => ?_, hmono, fun _ t ht => ?_, fun t ht => ?_, fun k hk => ?_, fun s hs hsl i hi => ?_, fun _ i hi hil => ?_⟩
  · rw [List.nodup_append]
    exact ⟨b.nodup, by simp, fun x hx y hy => by simp at hy; subst hy; exact fun e => hjQ (by rw [← e]; exact hx)⟩
  · rw [hl] at ht
    by_cases e : t = Q.length
    · subst e; rw [getD_app_last]; exact hg
    · rw [hgq t (by omega)]; exact b.grp t (by omega)
  · rw [hl] at ht
    by_cases e : t = Q.length
    · subst e
      rw [setN_at, setN_at, getD_app_last, hgq h hh, setN_ne _ _ _ (hneq h hh)]
      exact ⟨hh, Nat.le_refl _, by rw [← hj, getD_get _ _ hc]; exact List.getElem_mem hc, rfl⟩
    · obtain ⟨p1, p2, p3, p4⟩ := b.parent t h1 (by omega)
      rw [setN_ne _ _ _ e, setN_ne _ _ _ e, hgq t (by omega), hgq (par t) (by omega), setN_ne _ _ _ (show par t ≠ Q.length by omega)]
      exact ⟨p1, p2, p3, p4⟩
  · rw [hl] at ht
    rw [setN_ne _ _ _ (hneq h hh)]
    by_cases e : t = Q.length
    · subst e; rw [setN_at]; exact Nat.le_refl _
    · rw [setN_ne _ _ _ e]; exact b.wide hh t (by omega)
  · rw [hl] at ht
    unfold putM
    by_cases e : t = Q.length
    · subst e; rw [getD_app_last, if_pos rfl, setN_at, hgq h hh]
    · have hne2 : Q.getD t 0 ≠ j := fun e2 => hjQ (by rw [← e2, getD_get _ _ (show t < Q.length by omega)]; exact List.getElem_mem _)
      have hp : par t < Q.length := by
        by_cases z : t = 0
        · subst z; rw [b.par0]; have := b.len; omega
        · have := (b.parent t (by omega) (by omega)).1; omega
      rw [hgq t (by omega), if_neg hne2, setN_ne _ _ _ e, hgq _ hp]; exact b.mapIn t (by omega)
  · unfold putM at hk
    by_cases e : k = j
    · simp [e]
    · rw [if_neg e] at hk; simp [b.mapOut k hk]
  · have hsQ : s < Q.length := by omega
    rw [hgq s hsQ] at hi
    obtain ⟨d1, d2⟩ := b.done s hs hsQ i hi
    exact ⟨d1, fun hgi => by rw [setN_ne _ _ _ (hneq s hsQ)]; exact hlift _ _ (d2 hgi)⟩
  · rw [hgq h hh] at hil ⊢
    rw [setN_ne _ _ _ (hneq h hh)]
    by_cases e : i = c
    · subst e
      rw [hj]
      exact ⟨hne, fun _ => ⟨Q.length, by omega, getD_app_last Q j, by rw [setN_at]; exact Nat.le_refl _⟩⟩
    · obtain ⟨d1, d2⟩ := b.cur hh i (by omega) hil
      exact ⟨d1, fun hgi => hlift _ _ (d2 hgi)⟩

/-- The row in hand is done. -/
theorem Bfs.next (b : Bfs rs gs first Q dep par m h c) (hh : h < Q.length) (hc : (rowOf rs (Q.getD h 0)).length ≤ c) : Bfs rs gs first Q dep par m (h + 1) 0 := by
  refine ⟨b.len, b.head, b.dep0, b.par0, b.nodup, b.grp, fun t h1 ht => ?_, b.mono, fun hh1 t ht => ?_, b.mapIn, b.mapOut, fun s hs hsl j hj => ?_, fun _ i hi => by omega⟩
  · obtain ⟨p1, p2, p3, p4⟩ := b.parent t h1 ht
    exact ⟨p1, by omega, p3, p4⟩
  · have := b.wide hh t ht
    have := b.mono h (h + 1) (by omega) hh1
    omega
  · by_cases e : s = h
    · subst e
      obtain ⟨i, hi, hij⟩ := List.mem_iff_getElem.1 hj
      have x := b.cur hh i (by omega) hi
      rw [getD_get _ _ hi, hij] at x
      exact x
    · exact b.done s (by omega) hsl j hj

theorem Bfs.reach (b : Bfs rs gs first Q dep par m h c) : ∀ (d : Nat) (v : Int), Walk rs gs first d v → (∃ s, s < h ∧ s < Q.length ∧ Q.getD s 0 = v ∧ dep s ≤ d) ∨ (h < Q.length ∧ dep h ≤ d)
  | 0, v, hw => by
    have hv : v = first := hw
    have := b.len
    by_cases e : h = 0
    · exact .inr ⟨by omega, by rw [e, b.dep0]; exact Nat.le_refl _⟩
    · exact .inl ⟨0, by omega, by omega, by rw [b.head, hv], by rw [b.dep0]; exact Nat.le_refl _⟩
  | d + 1, v, ⟨u, hu, hrow, hg, _⟩ => by
    rcases b.reach d u hu with ⟨s, hs, hsl, rfl, hd⟩ | ⟨h1, h2⟩
    · obtain ⟨t, ht, htv, htd⟩ := (b.done s hs hsl v hrow).2 hg
      by_cases e : t < h
      · exact .inl ⟨t, e, ht, htv, by omega⟩
      · have := b.mono h t (by omega) ht
        exact .inr ⟨by omega, by omega⟩
    · exact .inr ⟨h1, by omega⟩

/-- A part with an edge back to the first, at d steps: the one in hand is no further. -/
theorem Bfs.least (b : Bfs rs gs first Q dep par m h c) {d : Nat} {v : Int} (hw : Walk rs gs first d v) (hf : first ∈ rowOf rs v) : h < Q.length ∧ dep h ≤ d := by
  rcases b.reach d v hw with ⟨s, hs, hsl, rfl, _⟩ | x
  · exact absurd rfl (b.done s hs hsl first hf).1
  · exact x

/-! ### The way back -/

/-- s steps up from the part in hand. -/
def up (par : Nat → Nat) (h : Nat) : Nat → Nat
  | 0 => h
  | s + 1 => par (up par h s)

theorem Bfs.up_dep (b : Bfs rs gs first Q dep par m h c) (hh : h < Q.length) : ∀ s, s ≤ dep h → up par h s < Q.length ∧ dep (up par h s) + s = dep h
  | 0, _ => ⟨hh, rfl⟩
  | s + 1, hs => by
    obtain ⟨h1, h2⟩ := b.up_dep hh s (by omega)
    have hpos : 1 ≤ up par h s := by
      rcases Nat.eq_zero_or_pos (up par h s) with e | e
      · rw [e, b.dep0] at h2; omega
      · exact e
    obtain ⟨p1, _, _, p4⟩ := b.parent (up par h s) hpos h1
    show par (up par h s) < Q.length ∧ dep (par (up par h s)) + (s + 1) = dep h
    omega
theorem Bfs.up_pos (b : Bfs rs gs first Q dep par m h c) (hh : h < Q.length) {s : Nat} (hs : s < dep h) : 1 ≤ up par h s := by
  obtain ⟨h1, h2⟩ := b.up_dep hh s (by omega)
  rcases Nat.eq_zero_or_pos (up par h s) with e | e
  · rw [e, b.dep0] at h2; omega
  · exact e
theorem Bfs.up_end (b : Bfs rs gs first Q dep par m h c) (hh : h < Q.length) : up par h (dep h) = 0 := by
  obtain ⟨h1, h2⟩ := b.up_dep hh (dep h) (Nat.le_refl _)
  rcases Nat.eq_zero_or_pos (up par h (dep h)) with e | e
  · exact e
  · have := (b.parent _ e h1).2.2.2; omega

/-- The part s steps up. -/
def upQ (Q : List Int) (par : Nat → Nat) (h s : Nat) : Int := Q.getD (up par h s) 0

theorem Bfs.upQ_ne (b : Bfs rs gs first Q dep par m h c) (hh : h < Q.length) {s : Nat} (hs : s < dep h) : upQ Q par h s ≠ first := by
  have h1 := (b.up_dep hh s (by omega)).1
  have h2 := b.up_pos hh hs
  intro e
  unfold upQ at e
  rw [← b.head, getD_get _ _ h1, getD_get _ _ (show 0 < Q.length by omega)] at e
  have := nodup_inj b.nodup _ _ e
  omega
theorem Bfs.upQ_end (b : Bfs rs gs first Q dep par m h c) (hh : h < Q.length) : upQ Q par h (dep h) = first := by
  unfold upQ; rw [b.up_end hh, b.head]
theorem Bfs.upQ_map (b : Bfs rs gs first Q dep par m h c) (hh : h < Q.length) {s : Nat} (hs : s ≤ dep h) : m (upQ Q par h s) = some (upQ Q par h (s + 1)) := by
  unfold upQ
  rw [b.mapIn _ (b.up_dep hh s hs).1]; rfl
theorem Bfs.upQ_edge (b : Bfs rs gs first Q dep par m h c) (hh : h < Q.length) {s : Nat} (hs : s < dep h) : upQ Q par h s ∈ rowOf rs (upQ Q par h (s + 1)) := by
  unfold upQ
  exact (b.parent _ (b.up_pos hh hs) (b.up_dep hh s (by omega)).1).2.2.1
theorem Bfs.upQ_grp (b : Bfs rs gs first Q dep par m h c) (hh : h < Q.length) {s : Nat} (hs : s ≤ dep h) : upQ Q par h s ∈ gs := b.grp _ (b.up_dep hh s hs).1
theorem Bfs.upQ_inj (b : Bfs rs gs first Q dep par m h c) (hh : h < Q.length) {s t : Nat} (hs : s ≤ dep h) (ht : t ≤ dep h) (e : upQ Q par h s = upQ Q par h t) : s = t := by
  obtain ⟨a1, a2⟩ := b.up_dep hh s hs
  obtain ⟨c1, c2⟩ := b.up_dep hh t ht
  unfold upQ at e
  rw [getD_get _ _ a1, getD_get _ _ c1] at e
  have := nodup_inj b.nodup _ _ e
  rw [this] at a2
  omega
theorem Bfs.dep_lt (b : Bfs rs gs first Q dep par m h c) (hh : h < Q.length) : dep h < gs.length := by
  have hle := b.le
  -- the depth never exceeds the place
  have hd : ∀ t, t < Q.length → dep t ≤ t := by
    intro t
    induction t using Nat.strongRecOn with
    | _ t ih =>
      intro ht
      by_cases e : t = 0
      · subst e; rw [b.dep0]; exact Nat.le_refl _
      · obtain ⟨p1, _, _, p4⟩ := b.parent t (by omega) ht
        have := ih (par t) p1 (by omega)
        omega
  have := hd h hh
  omega
theorem Bfs.upQ_walk (b : Bfs rs gs first Q dep par m h c) (hh : h < Q.length) : ∀ s, s ≤ dep h → Walk rs gs first s (upQ Q par h (dep h - s))
  | 0, _ => by rw [Nat.sub_zero]; exact b.upQ_end hh
  | s + 1, hs => by
    have ih := b.upQ_walk hh s (by omega)
    refine ⟨_, ih, ?_, b.upQ_grp hh (by omega), b.upQ_ne hh (by omega)⟩
    have := b.upQ_edge hh (s := dep h - (s + 1)) (by omega)
    rwa [show dep h - (s + 1) + 1 = dep h - s from by omega] at this

/-- A cycle from the first part back to it, through other parts of the group, none of them twice; no such cycle is shorter. -/
structure Cycle (rs : List (List Int)) (gs : List Int) (first : Int) (ps : List Int) (D : Nat) : Prop where
  len : ps.length = D + 2
  head : ps.getD 0 0 = first
  last : ps.getD (D + 1) 0 = first
  edge : ∀ k, k ≤ D → ps.getD (k + 1) 0 ∈ rowOf rs (ps.getD k 0)
  grp : ∀ k, k ≤ D → ps.getD k 0 ∈ gs
  ne : ∀ k, 1 ≤ k → k ≤ D → ps.getD k 0 ≠ first
  apart : ∀ k l, 1 ≤ k → k < l → l ≤ D → ps.getD k 0 ≠ ps.getD l 0
  walk : Walk rs gs first D (ps.getD D 0)
  small : D < gs.length
  least : ∀ d v, Walk rs gs first d v → first ∈ rowOf rs v → D ≤ d

/-- The way back, turned round and closed, is such a cycle. -/
theorem Bfs.cycle (b : Bfs rs gs first Q dep par m h c) (hh : h < Q.length) (hf : first ∈ rowOf rs (Q.getD h 0)) {ps : List Int} (hl : ps.length = dep h + 2) (h1 : ∀ k, k ≤ dep h → ps.getD k 0 = upQ Q par h (dep h - k)) (h2 : ps.getD (dep h + 1) 0 = first) :
    Cycle rs gs first ps (dep h) := by
  refine ⟨hl, ?_, h2, fun k hk => ?_, fun k hk => ?_, fun k a1 a2 => ?_, fun k l a1 a2 a3 e => ?_, ?_, b.dep_lt hh, fun d v hw hfv => (b.least hw hfv).2⟩
  · rw [h1 0 (by omega), Nat.sub_zero]; exact b.upQ_end hh
  · rw [h1 k hk]
    by_cases e : k = dep h
    · subst e
      rw [h2, Nat.sub_self]; exact hf
    · rw [h1 (k + 1) (by omega)]
      have := b.upQ_edge hh (s := dep h - (k + 1)) (by omega)
      rwa [show dep h - (k + 1) + 1 = dep h - k from by omega] at this
  · rw [h1 k hk]; exact b.upQ_grp hh (by omega)
  · rw [h1 k a2]; exact b.upQ_ne hh (by omega)
  · rw [h1 k (by omega), h1 l a3] at e
    have := b.upQ_inj hh (by omega) (by omega) e
    omega
  · rw [h1 (dep h) (Nat.le_refl _)]
    exact b.upQ_walk hh (dep h) (Nat.le_refl _)
end Go.Proofs.Qxb6601400a
