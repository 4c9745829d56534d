import Derived.Test.Qxb6601400aPlain
import Derived.Test.Qxb6601400aClone
import Derived.Laws.CopyOwn
import Derived.Deep.QuietTactic
import Derived.BigQuiet
namespace Go.Proofs.Qxb6601400a
open Go.RowKit

def TreeQ (w : World) (xs : List Int) (e : Ending) (w' : World) : Prop :=
  ∃ (L : Nat) (T : Nat → Int) (g : Nat), e = .returned (.agg #[.int .i64 (L : Int), .slice (some ⟨g, 0, none⟩) (2 * L) (2 * L)]) ∧ IsPow L xs.length ∧ xs.length ≤ L ∧ L ≤ 262144 ∧
    Tree L (fun i => xs.getD i 0) 0 T ∧ Arr w' g (2 * L) (fun k => .int .i64 (T k)) ∧ Below w.heap.size w w'

/-- The row behind the copy. -/
def row0 (L : Nat) (xs : List Int) (k : Nat) : Value := if L ≤ k then .int .i64 (xs.getD (k - L) 0) else .int .i64 0

theorem add_none (b off i : Nat) : (⟨b, off, none⟩ : Addr).add i = ⟨b, off + i, none⟩ := by
  unfold Addr.add
  by_cases c : i = 0
  · subst c; simp
  · simp [c]

theorem splice_get (n L : Nat) (z : Value) (cs : List Value) (hL : L + cs.length ≤ n) (i : Nat) (hi : i < n) :
    ((List.replicate n z).take L ++ cs ++ (List.replicate n z).drop (L + cs.length))[i]? = some (if L ≤ i ∧ i - L < cs.length then cs.getD (i - L) z else z) := by
  rw [List.take_replicate, List.drop_replicate, Nat.min_eq_left (by omega), List.append_assoc]
  by_cases c : i < L
  · rw [List.getElem?_append_left (by simpa using c), List.getElem?_replicate, if_pos c, if_neg (by omega)]
  · rw [List.getElem?_append_right (by simp; omega), List.length_replicate]
    by_cases c2 : i - L < cs.length
    · rw [List.getElem?_append_left c2, if_pos ⟨by omega, c2⟩]
      simp [c2]
    · rw [List.getElem?_append_right (by omega), List.getElem?_replicate, if_pos (by omega), if_neg (fun x => c2 x.2)]

theorem copy_run (w : World) (a : Option Addr) (cap : Nat) (xs : List Int) (L : Nat) (hE : Elems .i64 w a xs) (hL : xs.length ≤ L) :
    ∃ W2, (Builtin.copy_ #[22, 22] 3 #[.slice (some ⟨w.heap.size + 1, L, none⟩) (2 * L - L) (2 * L - L), .slice a xs.length cap]).run Try.prog
      ((w.alloc (.cells #[.int .i64 0, .slice none 0 0] 40)).alloc (.cells (madeCells #[.int .i64 0] (2 * L)) 3)) = .ok (.int .i64 (xs.length : Int)) W2 ∧
      Arr W2 (w.heap.size + 1) (2 * L) (row0 L xs) ∧ Arr W2 w.heap.size 2 (fun i => if i = 0 then .int .i64 0 else .slice none 0 0) ∧ Below w.heap.size w W2 := by
  have hB : Below w.heap.size w ((w.alloc (.cells #[.int .i64 0, .slice none 0 0] 40)).alloc (.cells (madeCells #[.int .i64 0] (2 * L)) 3)) := ((Below.refl _ _).alloc (Nat.le_refl _) _).alloc (by simp) _
  have hA2 : Arr ((w.alloc (.cells #[.int .i64 0, .slice none 0 0] 40)).alloc (.cells (madeCells #[.int .i64 0] (2 * L)) 3)) w.heap.size 2 (fun i => if i = 0 then .int .i64 0 else .slice none 0 0) := by
    refine (Arr.new w #[.int .i64 0, .slice none 0 0] 40 _ (fun i hi => ?_)).alloc _
    simp only [List.size_toArray, List.length_cons, List.length_nil] at hi
    rcases (show i = 0 ∨ i = 1 from by omega) with rfl | rfl <;> simp
  have hg := heap_alloc2_new w (.cells #[.int .i64 0, .slice none 0 0] 40) (.cells (madeCells #[.int .i64 0] (2 * L)) 3)
  have hA1 : Arr ((w.alloc (.cells #[.int .i64 0, .slice none 0 0] 40)).alloc (.cells (madeCells #[.int .i64 0] (2 * L)) 3)) (w.heap.size + 1) (2 * L) (fun _ => .int .i64 0) := by
    have h := made_arr (w.alloc (.cells #[.int .i64 0, .slice none 0 0] 40)) (.int .i64 0) (2 * L) 3
    rwa [World.size_alloc] at h
  generalize (w.alloc (.cells #[.int .i64 0, .slice none 0 0] 40)).alloc (.cells (madeCells #[.int .i64 0] (2 * L)) 3) = W at *
  by_cases h0 : xs = []
  · subst h0
    refine ⟨W, ?_, hA1.congr (fun i _ => by simp [row0]), hA2, hB⟩
    exact run_copy_none (P := Try.prog) W 22 22 3 3 _ a _ _ _ _ Try.underlying22 (by kernel_rfl) (by simp)
  · obtain ⟨b, off, rfl, hc⟩ := (hE.below hB (Nat.le_refl _)).at (List.length_pos_iff.2 h0)
    have hrun := run_copy_row Try.prog W 22 22 3 3 (w.heap.size + 1) L (2 * L - L) (2 * L - L) ⟨b, off, none⟩ xs.length cap (madeCells #[.int .i64 0] (2 * L)) 3 (xs.map (Value.int .i64)) Try.underlying22 (by kernel_rfl) hg
      (by rw [List.length_map]; exact (Nat.min_eq_left (by omega)).symm) (fun j v hj => by
        rw [add_none]
        obtain ⟨hjl, rfl⟩ := List.getElem?_eq_some_iff.1 hj
        rw [List.length_map] at hjl
        rw [hc j hjl]; simp [hjl])
      (by rw [List.length_map, size_madeCells]; omega) (ints_oneCell .i64 xs)
    rw [List.length_map] at hrun
    refine ⟨_, hrun, ?_, ?_, below_setRow hB (by omega) _⟩
    · have hh := setRow_heap W (w.heap.size + 1) _ ((madeCells #[.int .i64 0] (2 * L)).toList.take L ++ xs.map (Value.int .i64) ++ (madeCells #[.int .i64 0] (2 * L)).toList.drop (L + xs.length)).toArray 3 _ hg
      refine ⟨fun i hi => ?_, fun i => frozen_of_row _ _ i _ 3 hh, by rw [size_setRow]; exact hA1.lt⟩
      rw [cell_of_row _ _ i _ 3 _ hh, List.getElem?_toArray, toList_madeCells_one]
      have e := splice_get (2 * L) L (.int .i64 0) (xs.map (Value.int .i64)) (by rw [List.length_map]; omega) i hi
      rw [List.length_map] at e
      rw [e]
      unfold row0
      by_cases c : L ≤ i
      · by_cases c2 : i - L < xs.length
        · rw [if_pos ⟨c, c2⟩, if_pos c]; simp [c2]
        · rw [if_neg (fun x => c2 x.2), if_pos c]
          have : xs.length ≤ i - L := by omega
          simp [this]
      · rw [if_neg (fun x => c x.1), if_neg c]
    · refine ⟨fun i hi => ?_, fun i => ?_, by rw [size_setRow]; exact hA2.lt⟩
      · rw [cell_setRow_other W _ _ _ (by simp)]; exact hA2.cell i hi
      · have : (W.setRow (w.heap.size + 1) ((madeCells #[.int .i64 0] (2 * L)).toList.take L ++ xs.map (Value.int .i64) ++ (madeCells #[.int .i64 0] (2 * L)).toList.drop (L + xs.length)).toArray).frozen? ⟨w.heap.size, i, none⟩ = W.frozen? ⟨w.heap.size, i, none⟩ := World.frozen?_of_block (setRow_other W _ _ _ (by simp))
        rw [this]; exact hA2.free i

set_option maxRecDepth 100000 in
set_option maxHeartbeats 2000000 in
theorem newTree (a : Option Addr) (cap : Nat) (xs : List Int) (w : World) (hE : Elems .i64 w a xs) (hn : xs.length ≤ 131072) :
    Calls Try.prog 23 #[.slice a xs.length cap] w (TreeQ w xs) := by
  go_enter Try.func23, Try.ntmps23
  go_wp2
  go_loop [3] (fun v => ∃ L : Nat, v = .int .i64 L ∧ 1 ≤ L ∧ L ≤ 262144 ∧ Hid (IsPow L xs.length)) (fun v => xs.length - (intOf v).toNat)
  case atStart => exact ⟨1, rfl, by omega, by omega, IsPow.one _⟩
  case round =>
    obtain ⟨L, rfl, hL1, hL2, hP⟩ := hrel
    by_cases hlt : L < xs.length
    · go_wp2
      go_round
      case rel => exact ⟨L * 2, by go_num, by omega, by omega, hP.out.dbl hlt⟩
      case measure => simp [intOf]; omega
    · have hmk := make22 (2 * L) (by omega)
      have e2 : ((2 * L : Nat) : Int) = 2 * (L : Int) := by omega
      rw [e2] at hmk
      clear e2
      obtain ⟨W2, hcp, hA1, hA2, hB2⟩ := copy_run w a cap xs L hE (by omega)
      go_wp2
      clear hmk hcp hE
      go_loopw [5] (fun v wr => ∃ m : Nat, m < L ∧ v = .int .i64 m ∧ ∃ T, Tree L (fun i => xs.getD i 0) m T ∧ Arr wr (w.heap.size + 1) (2 * L) (fun k => .int .i64 (T k)) ∧ Arr wr w.heap.size 2 (fun i => if i = 0 then .int .i64 0 else .slice none 0 0) ∧ Below w.heap.size w wr) (fun v _ => (intOf v).toNat)
      case atStart =>
        refine ⟨L - 1, by omega, by go_num, (fun k => if L ≤ k then xs.getD (k - L) 0 else 0), ⟨fun i hi => ?_, fun j h1 h2 => by omega, fun j hj => ?_⟩, hA1.congr (fun k _ => ?_), hA2, hB2⟩
        · show (if L ≤ L + i then _ else _) = _
          rw [if_pos (by omega), show L + i - L = i from by omega]
        · show (if L ≤ j then _ else _) = _
          rw [if_neg (by omega)]
        · unfold row0
          by_cases c : L ≤ k
          · simp only [if_pos c]
          · simp only [if_neg c]
      case round =>
        clear hA1 hA2 hB2
        obtain ⟨m, hm, rfl, T, hT, hA, hR, hB⟩ := hrel
        by_cases hpos : 0 < m
        · have c0 := hA.cell (2 * m) (by omega)
          have c1 := hA.cell (2 * m + 1) (by omega)
          have c2 := hA.cell m (by omega)
          have f2 := hA.free m
          have HT : Hid (Tree L (fun i => xs.getD i 0) m T) := hT
          have HX : Hid (∃ x y, x = T (2 * m) ∧ y = T (2 * m + 1)) := ⟨_, _, rfl, rfl⟩
          obtain ⟨x, y, hx, hy⟩ := HX.out
          clear HX hT
          rw [← hx] at c0
          rw [← hy] at c1
          have HX : Hid (x = T (2 * m)) := hx
          have HY : Hid (y = T (2 * m + 1)) := hy
          clear hx hy
          have hstep : ∀ v, v = min x y → ∃ T', Tree L (fun i => xs.getD i 0) (m - 1) T' ∧ Arr (wr.setCell ⟨w.heap.size + 1, m, none⟩ (.int .i64 v)) (w.heap.size + 1) (2 * L) (fun k => .int .i64 (T' k)) := by
            rintro v rfl
            obtain ⟨m', rfl⟩ : ∃ m', m = m' + 1 := ⟨m - 1, by omega⟩
            refine ⟨_, HT.out.step hm, (hA.set (m' + 1) (by omega) _).congr (fun k _ => ?_)⟩
            by_cases c : k = m' + 1
            · simp only [if_pos c, HX.out, HY.out]
            · simp only [if_neg c]
          have HS : Hid (∀ v, v = min x y → ∃ T', Tree L (fun i => xs.getD i 0) (m - 1) T' ∧ Arr (wr.setCell ⟨w.heap.size + 1, m, none⟩ (.int .i64 v)) (w.heap.size + 1) (2 * L) (fun k => .int .i64 (T' k))) := hstep
          clear hstep
          by_cases hxy : y < x
          · go_wp2
            go_region
            all_goals go_wp2
            all_goals
              obtain ⟨T', hT', hA'⟩ := HS.out y (by omega)
              go_roundw
              case rel => exact ⟨m - 1, by omega, by go_num, T', hT', hA'.drew, (hR.other (by simp) _).drew, (hB.setCell (by simp) _).drew⟩
              case measure => simp [intOf]; omega
          · go_wp2
            go_region
            all_goals go_wp2
            all_goals
              obtain ⟨T', hT', hA'⟩ := HS.out x (by omega)
              go_roundw
              case rel => exact ⟨m - 1, by omega, by go_num, T', hT', hA'.drew, (hR.other (by simp) _).drew, (hB.setCell (by simp) _).drew⟩
              case measure => simp [intOf]; omega
        · obtain rfl : m = 0 := by omega
          have r0 := hR.cell 0 (by omega)
          have r1 := hR.cell 1 (by omega)
          have g0 := hR.free 0
          have g1 := hR.free 1
          simp at r0 r1
          go_wp2
          have hR2 := (hR.set 0 (by omega) (.int .i64 (L : Int))).set 1 (by omega) (.slice (some ⟨w.heap.size + 1, 0, none⟩) (2 * L) (2 * L))
          have q0 := hR2.cell 0 (by omega)
          have q1 := hR2.cell 1 (by omega)
          simp only [if_true, show ¬ ((0 : Nat) = 1) from by omega, if_false] at q0 q1
          exact bodyPost_ret (v := .agg #[.int .i64 (L : Int), .slice (some ⟨w.heap.size + 1, 0, none⟩) (2 * L) (2 * L)]) (by simp [results, Try.results23, go_sem, q0, q1]) rfl
            ⟨L, T, w.heap.size + 1, rfl, hP.out, by omega, hL2, hT, (hA.other (by simp) _).other (by simp) _, (hB.setCell (Nat.le_refl _) _).setCell (Nat.le_refl _) _⟩
end Go.Proofs.Qxb6601400a
