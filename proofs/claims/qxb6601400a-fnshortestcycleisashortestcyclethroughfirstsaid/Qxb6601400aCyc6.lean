import Derived.Test.Qxb6601400aCyc2
import Derived.Test.Qxb6601400aGraph3
import Derived.Maps.OwnSet
import Derived.ArgAppend
namespace Go.Proofs.Qxb6601400a
open Go.RowKit Go.Maps

theorem law3k : Keyed Try.prog 3 := int_keyed Try.underlying3
theorem zero3 (w : World) : (zeroValue 3).run Try.prog w = .ok (.int .i64 0) w := by kernel_rfl
theorem wf64 (k : Int) (h : -9223372036854775808 ≤ k ∧ k ≤ 9223372036854775807) : (Lit.int .i64 k).wf = true := WalkArith.wf_i64 h

/-- Block B is a map of at most N entries that holds m (on the numbers that an int can be). -/
def MapIs (w : World) (B N : Nat) (m : Int → Option Int) : Prop :=
  ∃ D : DataW Unit, w.ownsMap Try.prog 3 (plainElem Try.prog 3) B N D ∧ ∀ k : Int, (-9223372036854775808 ≤ k ∧ k ≤ 9223372036854775807) →
    Maps.has D (.int .i64 k) = (m k).isSome ∧ ∀ v, m k = some v → D.atKey (.int .i64 k) (.lit (.int .i64 0)) = .lit (.int .i64 v)

theorem MapIs.block {w w' : World} {B N : Nat} {m : Int → Option Int} (h : MapIs w B N m) (e : w'.heap[B]? = w.heap[B]?) : MapIs w' B N m := by
  obtain ⟨D, ⟨es, clock, hb, r⟩, hk⟩ := h
  exact ⟨D, ⟨es, clock, by rw [e]; exact hb, r⟩, hk⟩

theorem MapIs.start (w : World) : MapIs (w.alloc (.map #[] 0)) w.heap.size 0 (fun _ => none) :=
  ⟨.map [], World.ownsMap_made w Try.prog 3 _, fun _ _ => ⟨rfl, fun v h => by cases h⟩⟩

theorem MapIs.get {w : World} {B N : Nat} {m : Int → Option Int} (h : MapIs w B N m) {k v : Int} (hk : -9223372036854775808 ≤ k ∧ k ≤ 9223372036854775807) (hv : m k = some v) :
    (Instr.lookup 43 (.map (some B)) (.int .i64 k) false).run Try.prog w = .ok (.int .i64 v) w := by
  obtain ⟨D, hown, hm⟩ := h
  obtain ⟨c, hrun, hat, _⟩ := hown.lookup_int law3k Try.underlying43 Try.underlying3 (zero3 w) (keyOf_int_mk Try.underlying3 (wf64 k hk))
  have := (hm k hk).2 v hv
  rw [hat] at this
  injection this with e1
  injection e1 with e2 e3
  rw [hrun, e3]

theorem MapIs.ok {w : World} {B N : Nat} {m : Int → Option Int} (h : MapIs w B N m) {k : Int} (hk : -9223372036854775808 ≤ k ∧ k ≤ 9223372036854775807) :
    ∃ c : Int, (Instr.lookup 43 (.map (some B)) (.int .i64 k) true).run Try.prog w = .ok (.tuple #[.int .i64 c, .bool (m k).isSome]) w := by
  obtain ⟨D, hown, hm⟩ := h
  obtain ⟨v, ps, hrun, hR⟩ := hown.look_ok law3k Try.underlying43 (zero3 w) (plainElem_int Try.underlying3 (wf64 0 (by omega))) (keyOf_int_mk Try.underlying3 (wf64 k hk))
  obtain ⟨c, rfl, _, _⟩ := plainElem_int_inv Try.underlying3 hR
  rw [(hm k hk).1] at hrun
  exact ⟨c, hrun⟩

theorem MapIs.put {w : World} {B N : Nat} {m : Int → Option Int} (h : MapIs w B N m) (hN : N < 1048576) {k v : Int} (hk : -9223372036854775808 ≤ k ∧ k ≤ 9223372036854775807) (hv : -9223372036854775808 ≤ v ∧ v ≤ 9223372036854775807) :
    ∃ w', (Instr.mapUpdate 43 (.map (some B)) (.int .i64 k) (.int .i64 v)).run Try.prog w = .ok () w' ∧ MapIs w' B (N + 1) (putM m k v) ∧ w.grownBy w' (some B) := by
  obtain ⟨D, hown, hm⟩ := h
  obtain ⟨w', hrun, hown', hg⟩ := hown.update law3k Try.underlying43 (by unfold maxLen; omega) (keyOf_int_mk Try.underlying3 (wf64 k hk)) (plainElem_int Try.underlying3 (wf64 v hv))
  refine ⟨w', hrun, ⟨_, hown', fun x hx => ?_⟩, hg⟩
  have hkl : WideAt.IsKeyLit (.int .i64 k) := by simp [WideAt.IsKeyLit]
  unfold putM
  by_cases e : x = k
  · subst e
    rw [if_pos rfl]
    exact ⟨has_put_same hown.isMap hkl _, fun u hu => by
      cases hu
      exact atKey_put_same hown.isMap hkl _ _⟩
  · have hne : (Lit.int .i64 x) ≠ .int .i64 k := fun h => by injection h with _ h2; exact e h2
    rw [if_neg e, has_put_other hne]
    refine ⟨(hm x hx).1, fun u hu => ?_⟩
    rw [atKey_put_other hne]
    exact (hm x hx).2 u hu

theorem makeMap43 (n : Nat) (w : World) : (Instr.makeMap 43 (some (.int .i64 (n : Int)))).run Try.prog w = .ok (.map (some w.heap.size)) (w.alloc (.map #[] 0)) := by
  simp [Instr.makeMap, run_underlying Try.underlying43, asInt, asIntOf, newObj]
  rfl

/-- A slice of the call's own (from block 'base' on), with its spare room. -/
structure Own (w : World) (base : Nat) (ao : Option Addr) (c : Nat) (zs : List Int) : Prop where
  le : zs.length ≤ c
  cells : 0 < c → ∃ g off, ao = some ⟨g, off, none⟩ ∧ base ≤ g ∧ (∀ i, i < zs.length → w.cell? ⟨g, off + i, none⟩ = some (.int .i64 (zs.getD i 0))) ∧ (∀ i, i < c → (w.cell? ⟨g, off + i, none⟩).isSome = true) ∧ ∀ i, w.frozen? ⟨g, i, none⟩ = false

theorem Own.elems {w : World} {base : Nat} {ao : Option Addr} {c : Nat} {zs : List Int} (h : Own w base ao c zs) : Elems .i64 w ao zs := by
  by_cases e : zs = []
  · exact .inl e
  · have hl := List.length_pos_iff.2 e
    obtain ⟨g, off, ha, _, hc, _⟩ := h.cells (by have := h.le; omega)
    exact .inr ⟨g, off, ha, hc⟩
theorem Own.of_block {w w' : World} {base : Nat} {ao : Option Addr} {c : Nat} {zs : List Int} (h : Own w base ao c zs) (hk : ∀ g, base ≤ g → g < w.heap.size → w'.heap[g]? = w.heap[g]?) : Own w' base ao c zs :=
  ⟨h.le, fun hc => by
    obtain ⟨g, off, ha, hb, h1, h2, h3⟩ := h.cells hc
    have hlt : g < w.heap.size := by
      have := h2 0 hc
      cases e : w.cell? ⟨g, off + 0, none⟩ with
      | none => rw [e] at this; cases this
      | some v => exact block_lt_of_cell e
    have hcell : ∀ i, w'.cell? ⟨g, i, none⟩ = w.cell? ⟨g, i, none⟩ := fun i => World.cell?_of_block (hk g hb hlt)
    exact ⟨g, off, ha, hb, fun i hi => by rw [hcell]; exact h1 i hi, fun i hi => by rw [hcell]; exact h2 i hi, fun i => by rw [World.frozen?_of_block (hk g hb hlt)]; exact h3 i⟩⟩
theorem Own.alloc {w : World} {base : Nat} {ao : Option Addr} {c : Nat} {zs : List Int} (h : Own w base ao c zs) (o : Obj) : Own (w.alloc o) base ao c zs :=
  h.of_block (fun g _ hg => Below.heap_alloc w o g hg)
theorem Own.grown {w w' : World} {base : Nat} {ao : Option Addr} {c : Nat} {zs : List Int} (h : Own w base ao c zs) {B : Nat} (hg : w.grownBy w' (some B)) (hB : B < base) : Own w' base ao c zs :=
  h.of_block (fun g hb hlt => hg.block g hlt (by intro e; injection e with e; omega))
theorem Own.tail {w : World} {base g off c : Nat} {z : Int} {zs : List Int} (h : Own w base (some ⟨g, off, none⟩) c (z :: zs)) : Own w base (some ⟨g, off + 1, none⟩) (c - 1) zs := by
  have hle := h.le
  simp only [List.length_cons] at hle
  refine ⟨by omega, fun hc => ?_⟩
  obtain ⟨g', off', ha, hb, h1, h2, h3⟩ := h.cells (by omega)
  injection ha with ha
  injection ha with e1 e2
  subst e1 e2
  refine ⟨g, off + 1, rfl, hb, fun i hi => ?_, fun i hi => ?_, h3⟩
  · have := h1 (i + 1) (by simp; omega)
    rw [show off + 1 + i = off + (i + 1) from by omega, this]
    simp
  · have := h2 (i + 1) (by omega)
    rwa [show off + 1 + i = off + (i + 1) from by omega]
theorem Own.bare (w : World) (base : Nat) (ao : Option Addr) : Own w base ao 0 [] := ⟨Nat.le_refl _, fun h => by omega⟩
/-- A new slice of one number. -/
theorem Own.one (w : World) (base : Nat) (x : Int) (hb : base ≤ w.heap.size) : Own (w.alloc (.cells #[.int .i64 x] 3)) base (some ⟨w.heap.size, 0, none⟩) 1 [x] := by
  refine ⟨Nat.le_refl _, fun _ => ⟨w.heap.size, 0, rfl, hb, fun i hi => ?_, fun i hi => ?_, fun i => World.frozen?_alloc_new w _ 3 i⟩⟩
  · obtain rfl : i = 0 := by simp at hi; omega
    rw [World.cell?_alloc_new]; simp
  · obtain rfl : i = 0 := by omega
    rw [World.cell?_alloc_new]; simp

theorem own_of_row {w : World} {base n : Nat} {v : Value} {xs : List Int} (hn : xs.length = n) (hp : 0 < n) (h : w.ownsRow base 3 1 v n (xs.map (Value.int .i64))) :
    ∃ g c, v = .slice (some ⟨g, 0, none⟩) n c ∧ Own w base (some ⟨g, 0, none⟩) c xs ∧ 0 < c := by
  rcases h.2 with ⟨_, h0⟩ | ⟨g, cap, cur, rfl, hb, hg, hnc, _, hs, htake⟩
  · omega
  · refine ⟨g, cap, rfl, ⟨by omega, fun _ => ⟨g, 0, rfl, hb, fun i hi => ?_, fun i hi => ?_, fun i => frozen_of_row w g i cur 3 hg⟩⟩, by omega⟩
    · have e : cur.toList[i]? = (xs.map (Value.int .i64))[i]? := by
        rw [← htake, List.getElem?_take, if_pos (by omega)]
      rw [Nat.zero_add, cell_of_row w g i cur 3 (0, 0) hg, ← Array.getElem?_toList, e]
      simp [hi]
    · rw [Nat.zero_add, cell_of_row w g i cur 3 (0, 0) hg]
      have : i < cur.size := by omega
      simp [this]

theorem some_setCell {w : World} {a b : Addr} {v : Value} (h : (w.cell? b).isSome = true) : ((w.setCell a v).cell? b).isSome = true := by
  by_cases e : a = b
  · subst e
    cases hc : w.cell? a with
    | none => rw [hc] at h; cases h
    | some u => rw [World.cell?_setCell_same w a v hc]; rfl
  · rw [World.cell?_setCell_other w a b v e]; exact h

theorem app1 (W : World) (base : Nat) (ao : Option Addr) (c : Nat) (zs : List Int) (x : Int) (g2 : Nat) (hO : Own W base ao c zs) (hx : W.cell? ⟨g2, 0, none⟩ = some (.int .i64 x)) (hn : zs.length ≤ 1048576) (hb : base ≤ W.heap.size) :
    ∃ ao' c' W', (Builtin.append_ #[22, 22] 22 #[.slice ao zs.length c, .slice (some ⟨g2, 0, none⟩) 1 1]).run Try.prog W = .ok (.slice ao' (zs.length + 1) c') W' ∧ Own W' base ao' c' (zs ++ [x]) ∧ 0 < c' ∧ (ao' = ao ∨ ∃ g, ao' = some ⟨g, 0, none⟩) ∧ Below base W W' := by
  obtain ⟨i, hi, hz, hs, hby⟩ := info_parts info3
  have hnews : ∀ j u, [Value.int .i64 x][j]? = some u → W.cell? ((⟨g2, 0, none⟩ : Addr).add j) = some u := fun j u hj => by
    match j, hj with
    | 0, hj => simp at hj; subst hj; simpa [Addr.add] using hx
  by_cases hroom : zs.length + 1 ≤ c
  · obtain ⟨g, off, rfl, hbg, h1, h2, h3⟩ := hO.cells (by omega)
    have hr := run_append_room_cells (P := Try.prog) W 22 22 3 i Try.underlying22 hi g off zs.length c ⟨g2, 0, none⟩ 1 1 [.int .i64 x] (by rw [hs]; rfl) hnews (ints_oneCell .i64 [x]) hroom
      (fun j hj => by
        simp only [List.length_cons, List.length_nil] at hj
        obtain rfl : j = 0 := by omega
        rw [hs, Nat.mul_one, Nat.add_zero]
        exact h2 zs.length (by omega))
      (fun j _ => h3 _)
    rw [hs, Nat.mul_one] at hr
    refine ⟨_, _, W.setCell ⟨g, off + zs.length, none⟩ (.int .i64 x), hr, ⟨by simpa using hroom, fun _ => ⟨g, off, rfl, hbg, fun k hk => ?_, fun k hk => some_setCell (h2 k hk), fun k => by simpa using h3 k⟩⟩, by omega, .inl rfl, (Below.refl _ _).setCell hbg _⟩
    simp only [List.length_append, List.length_cons, List.length_nil] at hk
    by_cases e : k = zs.length
    · subst e
      cases hc : W.cell? ⟨g, off + zs.length, none⟩ with
      | none => have := h2 zs.length (by omega); rw [hc] at this; cases this
      | some u => rw [World.cell?_setCell_same W _ _ hc, getD_app_last]
    · rw [World.cell?_setCell_other W _ _ _ (by intro h; injection h; omega), h1 k (by omega), getD_app _ _ _ (by omega)]
  · have fin : ∀ v' W', W'.ownsRow W.heap.size 3 1 v' (zs.length + 1) (zs.map (Value.int .i64) ++ [.int .i64 x]) → W.grownBy W' none → (Builtin.append_ #[22, 22] 22 #[.slice ao zs.length c, .slice (some ⟨g2, 0, none⟩) 1 1]).run Try.prog W = .ok v' W' →
        ∃ ao' c' W', (Builtin.append_ #[22, 22] 22 #[.slice ao zs.length c, .slice (some ⟨g2, 0, none⟩) 1 1]).run Try.prog W = .ok (.slice ao' (zs.length + 1) c') W' ∧ Own W' base ao' c' (zs ++ [x]) ∧ 0 < c' ∧ (ao' = ao ∨ ∃ g, ao' = some ⟨g, 0, none⟩) ∧ Below base W W' := by
      intro v' W' hown hgr hrun
      have e : zs.map (Value.int .i64) ++ [.int .i64 x] = (zs ++ [x]).map (Value.int .i64) := by simp
      rw [e] at hown
      obtain ⟨g, cc, rfl, hO', hc'⟩ := own_of_row (by simp) (by omega) hown
      refine ⟨_, _, _, hrun, ⟨hO'.le, fun h => ?_⟩, hc', .inr ⟨g, rfl⟩, (Below.refl _ _).grown hgr hb (fun k h => by cases h)⟩
      obtain ⟨g', off', a1, a2, a3⟩ := hO'.cells h
      exact ⟨g', off', a1, by omega, a3⟩
    have hlen : (zs.map (Value.int .i64)).length = zs.length * 1 := by simp
    have hml : zs.length + 1 ≤ maxLen := by unfold maxLen; omega
    cases ao with
    | none =>
      have hc0 : c = 0 := by
        rcases Nat.eq_zero_or_pos c with e | e
        · exact e
        · obtain ⟨_, _, ha, _⟩ := hO.cells e; cases ha
      subst hc0
      have hz0 : zs = [] := List.length_eq_zero_iff.1 (by have := hO.le; omega)
      subst hz0
      obtain ⟨v', W', hrun, r1, r2, _⟩ := run_append_own (P := Try.prog) W W.heap.size 22 22 3 i (.int .i64 0) 1 8 Try.underlying22 hi hz hs hby rfl (by decide) (.slice none 0 0) 0 [] (World.ownsRow_nil W _ 3 1) ⟨g2, 0, none⟩ 1 1 [.int .i64 x] rfl hnews (ints_oneCell .i64 [x]) (by unfold maxLen; omega) (by omega) (Nat.le_refl _)
      exact fin v' W' (by simpa using r1) (by simpa [Value.ownBlock] using r2) (by simpa using hrun)
    | some b =>
      have holds : ∀ j u, (zs.map (Value.int .i64))[j]? = some u → W.cell? (b.add j) = some u := fun j u hj => by
        obtain ⟨hjl, rfl⟩ := List.getElem?_eq_some_iff.1 hj
        rw [List.length_map] at hjl
        obtain ⟨b', off', hbb, hcc⟩ := hO.elems.at (by omega)
        injection hbb with hbb
        subst hbb
        rw [add_none, hcc j hjl]; simp [hjl]
      obtain ⟨v', W', hrun, r1, r2⟩ := run_append_arg_grows (P := Try.prog) W 22 22 3 i (.int .i64 0) 1 8 Try.underlying22 hi hz hs hby rfl (by decide) b zs.length c (zs.map (Value.int .i64)) hlen holds ⟨g2, 0, none⟩ 1 1 [.int .i64 x] rfl hnews (by omega) hml (by omega)
      exact fin v' W' r1 r2 hrun

def RevQ2 (g N off n : Nat) (f : Nat → Int) (w : World) (e : Ending) (w' : World) : Prop :=
  e = .returned (.tuple #[]) ∧ Arr w' g N (fun j => .int .i64 (if off ≤ j ∧ j < off + n then f (off + (n - 1 - (j - off))) else f j)) ∧ w.grownBy w' (some g) ∧ ∀ i, (w.cell? ⟨g, i, none⟩).isSome = true → (w'.cell? ⟨g, i, none⟩).isSome = true

set_option maxHeartbeats 1000000 in
theorem reverse26b (g N off n c : Nat) (f : Nat → Int) (w : World) (hA : Arr w g N (fun j => .int .i64 (f j))) (hN : off + n ≤ N) (hn : n ≤ 1048576) (hpos : 0 < n) :
    Calls Try.prog 26 #[.slice (some ⟨g, off, none⟩) n c] w (RevQ2 g N off n f w) := by
  go_enter Try.func26, Try.ntmps26
  go_wp2
  go_loopw [2, 3] (fun i j wr => ∃ p : Nat, i = .int .i64 p ∧ j = .int .i64 ((n : Int) - 1 - (p : Int)) ∧ 2 * p ≤ n + 1 ∧ Arr wr g N (fun j => .int .i64 (rv f off n p j)) ∧ w.grownBy wr (some g) ∧ ∀ i, (w.cell? ⟨g, i, none⟩).isSome = true → (wr.cell? ⟨g, i, none⟩).isSome = true) (fun i j _ => (intOf j - intOf i + 1).toNat)
  case atStart => exact ⟨0, rfl, by simp, by omega, hA.congr (fun j _ => by rw [rv_zero]), ⟨rfl, rfl, rfl, Nat.le_refl _, fun _ _ _ => rfl⟩, fun _ h => h⟩
  case round =>
    obtain ⟨p, rfl, rfl, hp, hR, hG, hSm⟩ := hrel
    have HSM : Hid (∀ i, (w.cell? ⟨g, i, none⟩).isSome = true → (wr.cell? ⟨g, i, none⟩).isSome = true) := hSm
    clear hSm
    by_cases hlt : (p : Int) < (n : Int) - 1 - (p : Int)
    · obtain ⟨q, hq⟩ : ∃ q : Nat, (n : Int) - 1 - (p : Int) = (q : Int) := ⟨n - 1 - p, by omega⟩
      have hq2 : q = n - 1 - p := by omega
      have hpq : p < q := by omega
      have hqn : q < n := by omega
      have e1 : rv f off n p (off + p) = f (off + p) := by unfold rv; rw [if_neg (by omega)]
      have e2 : rv f off n p (off + q) = f (off + q) := by unfold rv; rw [if_neg (by omega)]
      have c1 := hR.cell (off + p) (by omega)
      have c2 := hR.cell (off + q) (by omega)
      have f1 := hR.free (off + p)
      have f2 := hR.free (off + q)
      rw [e1] at c1
      rw [e2] at c2
      have HST : Hid (∀ j, (if j = off + q then f (off + p) else if j = off + p then f (off + q) else rv f off n p j) = rv f off n (p + 1) j) := fun j => by rw [hq2]; exact rv_step f off n p j (by omega)
      have HQ2 : Hid (q = n - 1 - p) := hq2
      clear e1 e2 hq2 hA
      generalize f (off + p) = x at *
      generalize f (off + q) = y at *
      go_wp2
      go_region
      all_goals go_wp2
      go_roundw
      case rel => exact ⟨p + 1, by go_num, by go_num, by omega, (((hR.set (off + p) (by omega) _).set (off + q) (by omega) _).congr (fun j _ => by
        rw [← HST.out j]
        by_cases c1 : j = off + q
        · simp only [if_pos c1]
        · by_cases c2 : j = off + p
          · simp only [if_neg c1, if_pos c2]
          · simp only [if_neg c1, if_neg c2])).drew, grown_drew (grown_set (grown_set hG _ _) _ _), fun i h => some_setCell (some_setCell (HSM.out i h))⟩
      case measure => simp [intOf]; omega
    · go_wp2
      go_end0
      exact ⟨rfl, hR.congr (fun j _ => by rw [rv_full f off n p j (by omega) hp]), hG, HSM.out⟩

theorem reverse26z (a : Option Addr) (c : Nat) (w : World) : Calls Try.prog 26 #[.slice a 0 c] w fun e w' => e = .returned (.tuple #[]) ∧ w = w' := by
  go_enter Try.func26, Try.ntmps26
  go_wp2
  refine wp_loop_rounds 1 ?_
  rw [rounds_succ]
  go_wp2
  go_end0
  exact ⟨rfl, rfl⟩

end Go.Proofs.Qxb6601400a
