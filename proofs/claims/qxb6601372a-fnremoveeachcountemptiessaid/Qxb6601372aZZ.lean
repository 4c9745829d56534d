import Derived.Test.Qxb6601372aRemove
namespace Go.Proofs.Qxb6601372a
open Go.RowKit

theorem info61 : (Try.prog.info? 61).map (fun i => (i.zero, i.size, i.bytes)) = some (some (.agg #[.int .i8 0, .int .i32 0]), 2, 8) := by kernel_rfl
theorem make59 (n : Nat) (hn : n ≤ 1048576) (W : World) : (Instr.makeSlice 59 (.int .i64 (n : Int)) (.int .i64 (n : Int))).run Try.prog W = .ok (.slice (some ⟨W.heap.size, 0, none⟩) n n) (W.alloc (.cells (madeCells #[.int .i8 0, .int .i32 0] (n * 2)) 61)) := by
  obtain ⟨i, hi, hz, hs, hb⟩ := info_parts info61
  have h := run_make (P := Try.prog) W 59 61 i _ Try.underlying59 hi hz .i64 .i64 n n (by omega) (Int.le_refl _) (by rw [hb]; omega) (by omega)
  rw [hs] at h
  simpa [Value.cells] using h

theorem made_get2 (y z : Value) (n i : Nat) (h : i < n) : (madeCells #[y, z] n)[i]? = some (if i % 2 = 0 then y else z) := by
  have : i % 2 = 0 ∨ i % 2 = 1 := by omega
  rcases this with e | e <;> simp [madeCells, h, e]

/-- The pairs' cells behind m rounds of the filling. -/
def upF (ms ns : List Int) (m i : Nat) : Value := if i < 2 * m then pairF ms ns i else if i % 2 = 0 then .int .i8 0 else .int .i32 0
theorem upF_step (ms ns : List Int) (m i : Nat) : (if i = m * 2 + 1 then Value.int .i32 (ns.getD m 0) else if i = m * 2 then .int .i8 (ms.getD m 0) else upF ms ns m i) = upF ms ns (m + 1) i := by
  unfold upF
  by_cases c : i = m * 2 + 1
  · subst c; rw [if_pos rfl, if_pos (by omega), pairF_odd]
  · rw [if_neg c]
    by_cases c2 : i = m * 2
    · subst c2; rw [if_pos rfl, if_pos (by omega), pairF_even]
    · rw [if_neg c2]
      by_cases c3 : i < 2 * m
      · rw [if_pos c3, if_pos (by omega)]
      · have c4 : ¬ i < 2 * (m + 1) := by omega
        rw [if_neg c3, if_neg c4]
theorem upF_full (ms ns : List Int) (i : Nat) (h : i < 2 * ms.length) : upF ms ns ms.length i = pairF ms ns i := by
  unfold upF; rw [if_pos h]

theorem Arr.le {w : World} {b n n' : Nat} {f : Nat → Value} (h : Arr w b n f) (hn : n' ≤ n) : Arr w b n' f := ⟨fun i hi => h.cell i (by omega), h.free, h.lt⟩

theorem two_far (w : World) (C g i j : Nat) (u v : Value) (h : C ≠ g) : ((w.setCell ⟨g, i, none⟩ u).setCell ⟨g, j, none⟩ v).drew.cell? ⟨C, 0, none⟩ = w.cell? ⟨C, 0, none⟩ := by
  show ((w.setCell ⟨g, i, none⟩ u).setCell ⟨g, j, none⟩ v).cell? ⟨C, 0, none⟩ = _
  rw [cell_far _ _ _ _ _ h, cell_far _ _ _ _ _ h]

theorem rm_len {ms ns : List Int} {mode : Int} {ms' ns' : List Int} (hl : ms.length = ns.length) (h : Rm ms ns mode ms' ns') : ms'.length = ns'.length := by
  rcases h with ⟨_, rfl, rfl⟩ | ⟨i, hi, _, ⟨_, rfl, rfl⟩ | ⟨_, rfl, rfl⟩⟩
  · exact hl
  · simpa using hl
  · simp; omega

def ZRmQ (w : World) (ms ns : List Int) (mode : Int) (e : Ending) (w' : World) : Prop :=
  ∃ ms' ns' aM aN cM cN, Rm ms ns mode ms' ns' ∧ e = .returned (.tuple #[.slice aM ms'.length cM, .slice aN ns'.length cN]) ∧
    Elems .i8 w' aM ms' ∧ Elems .i32 w' aN ns' ∧ Below w.heap.size w w'

set_option maxHeartbeats 2000000 in
theorem zzremove (a a2 : Option Addr) (cap cap2 : Nat) (ms ns : List Int) (mode : Int) (w : World) (hM : Elems .i8 w a ms) (hN : Elems .i32 w a2 ns) (hl : ms.length = ns.length) (hn : ms.length ≤ 1048576)
    (hp : ∀ i, i < ms.length → 1 ≤ ns.getD i 0) (hp2 : ∀ i, ns.getD i 0 ≤ 2147483647) :
    Calls Try.prog 25 #[.slice a ms.length cap, .slice a2 ns.length cap2, .int .i8 mode] w (ZRmQ w ms ns mode) := by
  have HL : Hid (ms.length = ns.length) := hl
  have HP : Hid (∀ i, i < ms.length → 1 ≤ ns.getD i 0) := hp
  have HP2 : Hid (∀ i, ns.getD i 0 ≤ 2147483647) := hp2
  clear hl hp hp2
  have hmk := make59 ms.length hn
  go_enter Try.func25, Try.ntmps25
  go_wp2
  clear hmk
  go_loopw [18] (fun i wr => ∃ m : Nat, m ≤ ms.length ∧ i = .int .i64 m ∧ Arr wr w.heap.size (2 * ms.length) (upF ms ns m) ∧ wr.cell? ⟨w.heap.size + 1, 0, none⟩ = some (.slice (some ⟨w.heap.size, 0, none⟩) ms.length ms.length) ∧ wr.frozen? ⟨w.heap.size + 1, 0, none⟩ = false ∧ Below w.heap.size w wr) (fun i _ => ms.length - (intOf i).toNat)
  case atStart =>
    refine ⟨0, Nat.zero_le _, rfl, ?_, by simp, by simp, ((Below.refl _ _).alloc (Nat.le_refl _) _).alloc (by simp) _⟩
    have h := Arr.new w (madeCells #[.int .i8 0, .int .i32 0] (ms.length * 2)) 61 (upF ms ns 0) (fun i hi => by rw [made_get2 _ _ _ _ (by simpa [size_madeCells] using hi)]; simp [upF])
    rw [size_madeCells] at h
    exact (h.alloc _).le (by omega)
  case round =>
    obtain ⟨m, hm, rfl, hA, hC, hF, hB⟩ := hrel
    by_cases hlt : m < ms.length
    · have hlt2 : m < ns.length := by have := HL.out; omega
      obtain ⟨b, off, rfl, hc⟩ := hM.at (by omega)
      obtain ⟨b2, off2, rfl, hc2⟩ := hN.at (by omega)
      have hcm : wr.cell? ⟨b, off + m, none⟩ = some (.int .i8 (ms.getD m 0)) := (hB.cell (p := ⟨b, off + m, none⟩) (block_lt_of_cell (hc m hlt))).trans (hc m hlt)
      have hcn : wr.cell? ⟨b2, off2 + m, none⟩ = some (.int .i32 (ns.getD m 0)) := (hB.cell (p := ⟨b2, off2 + m, none⟩) (block_lt_of_cell (hc2 m hlt2))).trans (hc2 m hlt2)
      clear hc hc2 hM hN
      generalize hz : ms.getD m 0 = z at *
      generalize hy : ns.getD m 0 = y at *
      have HZ : Hid (ms.getD m 0 = z) := hz
      have HY : Hid (ns.getD m 0 = y) := hy
      clear hz hy
      have d0 := hA.cell (m * 2) (by omega)
      have d1 := hA.cell (m * 2 + 1) (by omega)
      have f0 := hA.free (m * 2)
      have f1 := hA.free (m * 2 + 1)
      go_wp2
      go_region
      all_goals go_wp2
      go_roundw
      case rel => exact ⟨m + 1, by omega, by go_num, (((hA.set (m * 2) (by omega) _).set (m * 2 + 1) (by omega) _).congr (fun i _ => by rw [← upF_step, HZ.out, HY.out])).drew, (two_far _ _ _ _ _ _ _ (by omega)).trans hC, by simp [hF], ((hB.setCell (Nat.le_refl _) _).setCell (Nat.le_refl _) _).drew⟩
      case measure => simp [intOf]; omega
    · obtain rfl : m = ms.length := by omega
      go_wp2_with fail
      refine (remove w.heap.size (w.heap.size + 1) w.heap.size ms.length ms ns mode _ HL.out hn (by omega) (Nat.le_refl _) (by omega) hC hF (Nat.le_refl _) (hA.congr (fun i hi => upF_full ms ns i hi)) HP.out HP2.out).mono ?_
      rintro e w1 ⟨rfl, ms', ns', f, cap', hR, hC1, hA1, hf1, hle, hB1⟩
      have hsz : w.heap.size + 1 < w1.heap.size := block_lt_of_cell hC1
      have hC2 : ∀ o, (w1.alloc o).cell? ⟨w.heap.size + 1, 0, none⟩ = some (.slice (some ⟨w.heap.size, 0, none⟩) ms'.length cap') := fun o => (World.cell?_alloc_lt w1 o _ hsz).trans hC1
      have hC3 : ∀ o o', ((w1.alloc o).alloc o').cell? ⟨w.heap.size + 1, 0, none⟩ = some (.slice (some ⟨w.heap.size, 0, none⟩) ms'.length cap') := fun o o' => (World.cell?_alloc_lt (w1.alloc o) o' _ (by simp; omega)).trans (hC2 o)
      have hmk1 := make36 ms'.length (by omega)
      have hmk2 := make37 ms'.length (by omega)
      go_wp2
      have HR : Hid (Rm ms ns mode ms' ns') := hR
      have HLL : Hid (ms'.length = ns'.length) := rm_len HL.out hR
      clear hR hmk1 hmk2 hC2 hC3 hA hC hF
      go_loopw [44] (fun i wt => ∃ m : Nat, m ≤ ms'.length ∧ i = .int .i64 m ∧ Arr wt w1.heap.size ms'.length (cp .i8 ms' m) ∧ Arr wt (w1.heap.size + 1) ms'.length (cp .i32 ns' m) ∧ Below w1.heap.size w1 wt) (fun i _ => ms'.length - (intOf i).toNat)
      case atStart =>
        refine ⟨0, Nat.zero_le _, rfl, ((made_arr w1 _ _ _).alloc _).congr (fun i _ => by simp [cp]), ?_, ((Below.refl _ _).alloc (Nat.le_refl _) _).alloc (by simp) _⟩
        have h := made_arr (w1.alloc (.cells (madeCells #[.int .i8 0] ms'.length) 25)) (.int .i32 0) ms'.length 21
        rw [World.size_alloc] at h
        exact h.congr (fun i _ => by simp [cp])
      case round =>
        obtain ⟨m, hm, rfl, hD, hE, hB2⟩ := hrel
        by_cases hlt2 : m < ms'.length
        · have hlt3 : m < ns'.length := by have := HLL.out; omega
          have hcC : wr.cell? ⟨w.heap.size + 1, 0, none⟩ = some (.slice (some ⟨w.heap.size, 0, none⟩) ms'.length cap') := (hB2.cell (p := ⟨w.heap.size + 1, 0, none⟩) hsz).trans hC1
          have hc0 : wr.cell? ⟨w.heap.size, m * 2, none⟩ = some (.int .i8 (ms'.getD m 0)) := by
            rw [hB2.cell (p := ⟨w.heap.size, m * 2, none⟩) (by show w.heap.size < _; omega), hA1.cell _ (by omega), hf1 _ (by omega), pairF_even]
          have hc1 : wr.cell? ⟨w.heap.size, m * 2 + 1, none⟩ = some (.int .i32 (ns'.getD m 0)) := by
            rw [hB2.cell (p := ⟨w.heap.size, m * 2 + 1, none⟩) (by show w.heap.size < _; omega), hA1.cell _ (by omega), hf1 _ (by omega), pairF_odd]
          have d0 := hD.cell m hlt2
          have d1 := hE.cell m hlt2
          have f0 := hD.free m
          have f1 := hE.free m
          clear hf1 hA1 hC1
          go_wp2
          go_roundw
          case rel => exact ⟨m + 1, by omega, by go_num, ((hD.set m hlt2 _).other (by simp) _).congr (fun i _ => cp_step' _ _ _ _ hlt2), ((hE.other (by simp) _).set m hlt2 _).congr (fun i _ => cp_step' _ _ _ _ hlt3), (hB2.setCell (Nat.le_refl _) _).setCell (by simp) _⟩
          case measure => simp [intOf]; omega
        · obtain rfl : m = ms'.length := by omega
          go_wp2
          go_ret2
          exact ⟨ms', ns', _, _, _, _, HR.out, by rw [← HLL.out]; rfl, Elems.ofArr hD (Nat.le_refl _) (fun i hi => by simp [cp, hi]), Elems.ofArr hE (by rw [HLL.out]; exact Nat.le_refl _) (fun i hi => by rw [HLL.out]; simp [cp, hi]), (hB.trans hB1).trans (hB2.mono (by omega))⟩
end Go.Proofs.Qxb6601372a
