/- The proof of the given statement, over the frame that the kit wrote for this function. -/
import Derived.Test.Qxb6601400aRows
import Derived.WalkKit
import Derived.ProofKit
import Derived.OpenShut
import Derived.ShutString
import Derived.ChangeOld
import Derived.Below
import Derived.Test.Qxb6601400aOpen
import Derived.Test.Qxb6601400aCyc8
import Derived.Deep.Matrix
namespace Go.Proofs.Qxb6601400a.fnShortestCycleIsAShortestCycleThroughFirst
open Go.ChangeShapes Go.WideShapes Go.ChangeAt Go.RowKit
open Go.ChangeMaps (open_string shut_string)
set_option linter.unusedVariables false

theorem own : ownKnob Try.prog.godebug = none := by kernel_rfl
theorem laidOut : laidOutB Try.prog = true := by kernel_rfl

/-- WHAT THE WALK IS TOLD OF A SLICE OF INTEGERS THAT CAME IN: it is nil; or it leads to a row of 'cap' cells, the numbers 'zs' (the first 'len' are its elements, the rest its spare room), each fitting its kind. -/
def IsRow (k : IntKind) (w : World) (a : Option Addr) (len cap : Nat) (zs : List Int) : Prop :=
  (a = none ∧ len = 0 ∧ cap = 0 ∧ zs = []) ∨
  ∃ x, a = some x ∧ len ≤ cap ∧ cap ≤ maxLen ∧ zs.length = cap ∧ (∀ i, i < zs.length → w.cell? (x.add i) = some (.int k (zs.getD i 0))) ∧ ∀ n ∈ zs, (Lit.int k n).wf = true

/-! ### The walk -/
theorem spot_none {w : World} {x : Addr} {v : Value} (h : w.cell? (x.add 0) = some v) : ∃ b off, x = ⟨b, off, none⟩ := by
  obtain ⟨b, off, spot⟩ := x
  have : spot = none := by simpa [Addr.add] using World.cell?_spot h
  subst this
  exact ⟨b, off, rfl⟩

theorem walk (a0 : Option Addr) (len0 cap0 : Nat) (z0 : List Int) (a1 : Option Addr) (cap1 : Nat) (rs : List (List Int)) (w : World) (w0 : IsRow .i64 w a0 len0 cap0 z0) (hR : Go.Proofs.Qxb6601400a.Rows w a1 rs) (hrl : rs.length ≤ 9223372036854775807)
    (hnil : a1 = none → rs = []) (hrow : ∀ k, (rs.getD k []).length ≤ 9223372036854775807) (hrng : ∀ k i, -9223372036854775808 ≤ (rs.getD k []).getD i 0 ∧ (rs.getD k []).getD i 0 ≤ 9223372036854775807) :
    Calls Try.prog 5 #[.slice a0 len0 cap0, .slice a1 rs.length cap1] w fun e w' => e = .returned (.bool true) ∧ Below w.heap.size w w' := by
  obtain ⟨hM, hlM, hnM, hmM, hwM⟩ := row_elems w0
  have h := law5 a0 a1 cap0 cap1 (z0.take len0) rs w hM hR (by omega) hrl hnM hnil hrow hrng
  rw [hlM] at h
  exact h

/-- From what the reader says of a slice of slices that came in to the walks' own word. -/
theorem open_rows {W : World} {a : Addr} {len cap : Nat} {A : Nat → Option Addr} {L C : Nat → Nat} {Z : Nat → List Int} (hl : len ≤ cap)
    (hx : ∀ r, r < cap → W.cell? (a.add r) = some (.slice (A r) (L r) (C r)) ∧ L r ≤ C r ∧ C r ≤ maxLen ∧ (Z r).length = C r ∧ (∀ n ∈ Z r, (Lit.int .i64 n).wf = true) ∧ (A r = none → C r = 0) ∧ ∀ a', A r = some a' → 0 ≤ a'.block ∧ ∀ c, c < C r → W.cell? (a'.add c) = some (.int .i64 ((Z r).getD c 0))) :
    ∃ rs : List (List Int), rs.length = len ∧ Go.Proofs.Qxb6601400a.Rows W (some a) rs ∧ (∀ k, (rs.getD k []).length ≤ 9223372036854775807) ∧ ∀ k i, -9223372036854775808 ≤ (rs.getD k []).getD i 0 ∧ (rs.getD k []).getD i 0 ≤ 9223372036854775807 := by
  refine ⟨(List.range len).map (fun r => (Z r).take (L r)), by simp, ?_, fun k => ?_, fun k i => ?_⟩
  · by_cases h0 : len = 0
    · left; simp [h0]
    · have h1 := (hx 0 (by omega)).1
      obtain ⟨b, off, rfl⟩ := spot_none h1
      right
      refine ⟨b, off, rfl, fun k hk => ?_⟩
      simp only [List.length_map, List.length_range] at hk
      obtain ⟨c1, c2, c3, c4, c5, c6, c7⟩ := hx k (by omega)
      have e : ((List.range len).map (fun r => (Z r).take (L r))).getD k [] = (Z k).take (L k) := by simp [hk]
      have el : ((Z k).take (L k)).length = L k := by simp; omega
      rw [add_none] at c1
      refine ⟨A k, C k, by rw [e, el]; exact c1, ?_, fun hn => ?_⟩
      · rw [e]
        by_cases hz : L k = 0
        · left; simp [hz]
        · cases hA : A k with
          | none => have := c6 hA; omega
          | some a' =>
            have hc := (c7 a' hA).2
            obtain ⟨b', off', rfl⟩ := spot_none (hc 0 (by omega))
            right
            refine ⟨b', off', rfl, fun i hi => ?_⟩
            rw [el] at hi
            have := hc i (by omega)
            rw [add_none] at this
            rw [this]
            simp [hi]
      · rw [e]
        have := c6 hn
        have : L k = 0 := by omega
        simp [this]
  · by_cases hk : k < len
    · obtain ⟨_, c2, c3, c4, _⟩ := hx k (by omega)
      have e : ((List.range len).map (fun r => (Z r).take (L r))).getD k [] = (Z k).take (L k) := by simp [hk]
      rw [e]
      unfold maxLen at c3
      simp; omega
    · have e : ((List.range len).map (fun r => (Z r).take (L r))).getD k [] = [] := by simp [Nat.le_of_not_lt hk]
      rw [e]; simp
  · by_cases hk : k < len
    · obtain ⟨_, _, _, _, c5, _⟩ := hx k (by omega)
      have e : ((List.range len).map (fun r => (Z r).take (L r))).getD k [] = (Z k).take (L k) := by simp [hk]
      rw [e]
      exact getD_range (by omega) (fun n hn => bounds_i64 (c5 n (List.mem_of_mem_take hn))) i
    · have e : ((List.range len).map (fun r => (Z r).take (L r))).getD k [] = [] := by simp [Nat.le_of_not_lt hk]
      rw [e]; simp

/-! ### The row's step -/
set_option maxRecDepth 100000 in
theorem lifted (os : Os) (started : os.Started) (H : Type) (enc : TypeId × Value → H) :
    ReturnsInHanded {} Try.checked os 5 .any (Rows.fnShortestCycleIsAShortestCycleThroughFirstSpec.pre6 enc Try.prog Try.f5 Rows.fnShortestCycleIsAShortestCycleThroughFirstRow.domain false) (Rows.fnShortestCycleIsAShortestCycleThroughFirstSpec.post enc Try.prog Try.f5 false true false false) := by
  refine returnsInHanded_of_change (C := Try.checked) own started (by kernel_rfl) Try.func5
    (ChangeSpec.witness6 (enc := enc) (C := Try.checked) false ⟨#[], #[.slice none 0 0, .slice none 0 0], []⟩ 8 (by kernel_rfl) (by kernel_rfl) (by kernel_rfl) (by kernel_rfl)) ?_
  intro W base args ds gs before hval0 hW hcnd _
  have hval : ∀ (j : Nat) t v, Try.f5.params[j]? = some t → args[j]? = some v → Value.okWide Try.prog W .any base t v := hval0
  have hW' := hW
  obtain ⟨p, q, hA0, hV, rfl, hfz, hnd⟩ := hW
  have hA : DataW.TrodAll enc Try.prog W 0 (fun _ => true) true Try.f5.params.toList args.toList ds p := hA0
  rw [Try.params5] at hA hval
  obtain ⟨v0, vs0, d0, ds0, p0, q0, hargs, rfl, rfl, h0, r0⟩ := trodAll_cons hA
  obtain ⟨v1, vs1, d1, ds1, p1, q1, rfl, rfl, rfl, h1, r1⟩ := trodAll_cons r0
  obtain ⟨rfl, rfl, rfl⟩ := trodAll_nil r1
  obtain rfl : args = #[v0, v1] := by cases args; simp_all
  obtain ⟨rfl, rfl⟩ := trodVars_none hV
  obtain ⟨a0, len0, cap0, rfl⟩ := okWide_slice Try.underlying22 (hval 0 22 v0 rfl rfl)
  have k0 := h0
  have lt0 : ∀ x ∈ p0, x.block < W.heap.size := by obtain ⟨m, hm⟩ := k0; exact DataW.trod_lt m _ _ _ hm
  obtain ⟨z0, w0⟩ : ∃ zs, IsRow .i64 W a0 len0 cap0 zs := by
    obtain ⟨fuel, hf⟩ := h0
    rcases open_ints Try.underlying22 Try.underlying3 (by kernel_rfl) hf with ⟨hcs, _⟩ | ⟨x, l, c, zs, hcs, _, hl, hm, hz, _, hcell, hwz⟩
    · simp [Value.cells] at hcs
      obtain ⟨rfl, rfl, rfl⟩ := hcs
      exact ⟨[], .inl ⟨rfl, rfl, rfl, rfl⟩⟩
    · simp [Value.cells] at hcs
      obtain ⟨rfl, rfl, rfl⟩ := hcs
      exact ⟨zs, .inr ⟨_, rfl, hl, hm, by simpa using hz, hcell, hwz⟩⟩
  obtain ⟨a1, len1, cap1, rfl⟩ := okWide_slice Try.underlying30 (hval 1 30 v1 rfl rfl)
  have k1 := h1
  have lt1 : ∀ x ∈ p1, x.block < W.heap.size := by obtain ⟨m, hm⟩ := k1; exact DataW.trod_lt m _ _ _ hm
  obtain ⟨rs, rfl, hR, hrl, hnil, hrow, hrng⟩ : ∃ rs : List (List Int), rs.length = len1 ∧ Go.Proofs.Qxb6601400a.Rows W a1 rs ∧ rs.length ≤ 9223372036854775807 ∧ (a1 = none → rs = []) ∧ (∀ k, (rs.getD k []).length ≤ 9223372036854775807) ∧ ∀ k i, -9223372036854775808 ≤ (rs.getD k []).getD i 0 ∧ (rs.getD k []).getD i 0 ≤ 9223372036854775807 := by
    obtain ⟨fuel, hf⟩ := h1
    rcases Go.Deep.open_int_rows Try.underlying30 Try.underlying22 Try.underlying3 (by kernel_rfl) (by kernel_rfl) hf with ⟨hcs, _⟩ | ⟨a, l, c, A, L, C, Z, hcs, _, hl, hm, _, hx⟩
    · simp [Value.cells] at hcs
      obtain ⟨rfl, rfl, rfl⟩ := hcs
      exact ⟨[], rfl, .inl rfl, by simp, fun _ => rfl, by simp, by simp⟩
    · simp [Value.cells] at hcs
      obtain ⟨rfl, rfl, rfl⟩ := hcs
      obtain ⟨rs, e1, e2, e3, e4⟩ := open_rows hl hx
      exact ⟨rs, e1, e2, by unfold maxLen at hm; omega, (fun h => by cases h), e3, e4⟩
  clear hA0 hval0
  refine (walk a0 len0 cap0 z0 a1 cap1 rs W w0 hR hrl hnil hrow hrng).mono fun e W' ⟨he, bel⟩ => ?_
  subst he
  exact ⟨_, rfl, _, _, _, [], _, [], hW', trodAll_mk1 (shut_bool Try.underlying4 _), (trodAll_cons_mk (Below.trod laidOut (by kernel_rfl) (of_decide_eq_true (by kernel_rfl)) k0 bel lt0) (trodAll_cons_mk (Below.trod laidOut (by kernel_rfl) (of_decide_eq_true (by kernel_rfl)) k1 bel lt1) trodAll_mk0)), rfl, bel.frame _, fun h => by cases h⟩

theorem over : Rows.fnShortestCycleIsAShortestCycleThroughFirstRow.holds Try.pinned (OpenSpec.ofChange Rows.fnShortestCycleIsAShortestCycleThroughFirstSpec) :=
  OpenClaim.holds_of_wide 5 Try.f5 rfl rfl rfl rfl rfl rfl rfl ⟨rfl, rfl, rfl, rfl, rfl⟩ rfl rfl rfl rfl rfl (by kernel_rfl) Try.func5 (by kernel_rfl)
    (of_decide_eq_true (by kernel_rfl)) (by unfold Func.isWrapper; first | (rw [if_pos (by decide +kernel)]; kernel_rfl) | (rw [if_neg (by decide +kernel)]; exact ⟨rfl, rfl⟩))
    (fun os started H enc _ => lifted os started H enc)

/-- The statement. -/
theorem proved : Rows.FnShortestCycleIsAShortestCycleThroughFirstSaid := over
end Go.Proofs.Qxb6601400a.fnShortestCycleIsAShortestCycleThroughFirst
