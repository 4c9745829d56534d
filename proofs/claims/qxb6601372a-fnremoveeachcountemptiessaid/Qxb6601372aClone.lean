import Derived.Test.Qxb6601372aBase
namespace Go.Proofs.Qxb6601372a
open Go.RowKit

theorem info25 : (Try.prog.info? 25).map (fun i => (i.zero, i.size, i.bytes)) = some (some (.int .i8 0), 1, 1) := by kernel_rfl
theorem info21 : (Try.prog.info? 21).map (fun i => (i.zero, i.size, i.bytes)) = some (some (.int .i32 0), 1, 4) := by kernel_rfl

theorem made_get (z : Value) (n i : Nat) (h : i < n) : (madeCells #[z] n)[i]? = some z := by
  simp [madeCells, h, Nat.mod_one]

theorem make36 (n : Nat) (hn : n ≤ 1048576) (W : World) : (Instr.makeSlice 36 (.int .i64 (n : Int)) (.int .i64 (n : Int))).run Try.prog W = .ok (.slice (some ⟨W.heap.size, 0, none⟩) n n) (W.alloc (.cells (madeCells #[.int .i8 0] n) 25)) := by
  obtain ⟨i, hi, hz, hs, hb⟩ := info_parts info25
  have h := run_make (P := Try.prog) W 36 25 i _ Try.underlying36 hi hz .i64 .i64 n n (by omega) (Int.le_refl _) (by rw [hb]; omega) (by omega)
  rw [hs] at h
  simpa [Value.cells] using h

theorem make37 (n : Nat) (hn : n ≤ 1048576) (W : World) : (Instr.makeSlice 37 (.int .i64 (n : Int)) (.int .i64 (n : Int))).run Try.prog W = .ok (.slice (some ⟨W.heap.size, 0, none⟩) n n) (W.alloc (.cells (madeCells #[.int .i32 0] n) 21)) := by
  obtain ⟨i, hi, hz, hs, hb⟩ := info_parts info21
  have h := run_make (P := Try.prog) W 37 21 i _ Try.underlying37 hi hz .i64 .i64 n n (by omega) (Int.le_refl _) (by rw [hb]; omega) (by omega)
  rw [hs] at h
  simpa [Value.cells] using h

theorem made_arr (W : World) (z : Value) (n : Nat) (t : TypeId) : Arr (W.alloc (.cells (madeCells #[z] n) t)) W.heap.size n (fun _ => z) := by
  have h := Arr.new W (madeCells #[z] n) t (fun _ => z) (fun i hi => made_get z n i (by simpa [size_madeCells] using hi))
  rwa [size_madeCells] at h

/-- The cells behind k rounds of a copy. -/
def cp (k : IntKind) (zs : List Int) (m : Nat) (i : Nat) : Value := if i < m then .int k (zs.getD i 0) else .int k 0
theorem cp_step (k : IntKind) (zs : List Int) (m : Nat) (i : Nat) : (if i = m then Value.int k (zs.getD m 0) else cp k zs m i) = cp k zs (m + 1) i := by
  unfold cp
  by_cases h : i = m
  · subst h; simp
  · by_cases h2 : i < m
    · rw [if_neg h, if_pos h2, if_pos (by omega)]
    · rw [if_neg h, if_neg h2, if_neg (by omega)]

theorem cp_step' (k : IntKind) (zs : List Int) (m : Nat) (i : Nat) (h : m < zs.length) : (if i = m then Value.int k zs[m] else cp k zs m i) = cp k zs (m + 1) i := by
  rw [← cp_step]; simp [h]

/-- What a clone hands back: a slice over the same numbers; old memory as it was. -/
def CloneQ (k : IntKind) (w : World) (zs : List Int) (e : Ending) (w' : World) : Prop :=
  ∃ a' cap', e = .returned (.slice a' zs.length cap') ∧ Elems k w' a' zs ∧ (a' = none → zs = []) ∧ Below w.heap.size w w'

set_option maxHeartbeats 400000 in
theorem clone8 (a : Option Addr) (cap : Nat) (zs : List Int) (w : World) (hE : Elems .i8 w a zs) (hn : zs.length ≤ 1048576) (hnil : a = none → zs = []) :
    Calls Try.prog 23 #[.slice a zs.length cap] w (CloneQ .i8 w zs) := by
  have q : ∀ (w : World) (a : Option Addr) (n c n' c' : Nat), (binOp .eql 36 (.slice a n c) (.slice none n' c')).run Try.prog w = .ok (.bool a.isNone) w := fun w a n c n' c' => Lib.run_eql_slice_nil w _ _ a n c n' c' Try.underlying36
  cases a with
  | none =>
    obtain rfl := hnil rfl
    go_enter Try.func23, Try.ntmps23
    go_wp2
    go_ret
    exact ⟨none, 0, rfl, .inl rfl, fun _ => rfl, Below.refl _ _⟩
  | some x =>
    have hmk := make36 zs.length hn
    go_enter Try.func23, Try.ntmps23
    go_wp2
    clear q hmk
    go_loopw [4] (fun i wr => ∃ m : Nat, m ≤ zs.length ∧ i = .int .i64 m ∧ Arr wr w.heap.size zs.length (cp .i8 zs m) ∧ Below w.heap.size w wr) (fun i _ => zs.length - (intOf i).toNat)
    case atStart => exact ⟨0, Nat.zero_le _, rfl, (made_arr w _ _ _).congr (fun i _ => by simp [cp]), (Below.refl _ _).alloc (Nat.le_refl _) _⟩
    case round =>
      obtain ⟨m, hm, rfl, hA, hB⟩ := hrel
      by_cases hlt : m < zs.length
      · obtain ⟨b, off, hx, hc⟩ := hE.at (by omega)
        obtain rfl : x = ⟨b, off, none⟩ := by simpa using hx
        have hbl := block_lt_of_cell (hc m hlt)
        have hcm : wr.cell? ⟨b, off + m, none⟩ = some (.int .i8 (zs.getD m 0)) := (hB.cell (p := ⟨b, off + m, none⟩) hbl).trans (hc m hlt)
        have hcd := hA.cell m hlt
        have hfd := hA.free m
        clear hc hx
        go_wp2
        go_roundw
        case rel => exact ⟨m + 1, by omega, by go_num, (hA.set m hlt _).congr (fun i _ => cp_step' _ _ _ _ hlt), hB.setCell (by simp) _⟩
        case measure => simp [intOf]; omega
      · obtain rfl : m = zs.length := by omega
        go_wp2
        go_ret
        exact ⟨_, _, rfl, Elems.ofArr hA (Nat.le_refl _) (fun i hi => by simp [cp, hi]), fun h => by simp at h, hB⟩
set_option maxHeartbeats 400000 in
theorem clone32 (a : Option Addr) (cap : Nat) (zs : List Int) (w : World) (hE : Elems .i32 w a zs) (hn : zs.length ≤ 1048576) (hnil : a = none → zs = []) :
    Calls Try.prog 24 #[.slice a zs.length cap] w (CloneQ .i32 w zs) := by
  have q : ∀ (w : World) (a : Option Addr) (n c n' c' : Nat), (binOp .eql 37 (.slice a n c) (.slice none n' c')).run Try.prog w = .ok (.bool a.isNone) w := fun w a n c n' c' => Lib.run_eql_slice_nil w _ _ a n c n' c' Try.underlying37
  cases a with
  | none =>
    obtain rfl := hnil rfl
    go_enter Try.func24, Try.ntmps24
    go_wp2
    go_ret
    exact ⟨none, 0, rfl, .inl rfl, fun _ => rfl, Below.refl _ _⟩
  | some x =>
    have hmk := make37 zs.length hn
    go_enter Try.func24, Try.ntmps24
    go_wp2
    clear q hmk
    go_loopw [4] (fun i wr => ∃ m : Nat, m ≤ zs.length ∧ i = .int .i64 m ∧ Arr wr w.heap.size zs.length (cp .i32 zs m) ∧ Below w.heap.size w wr) (fun i _ => zs.length - (intOf i).toNat)
    case atStart => exact ⟨0, Nat.zero_le _, rfl, (made_arr w _ _ _).congr (fun i _ => by simp [cp]), (Below.refl _ _).alloc (Nat.le_refl _) _⟩
    case round =>
      obtain ⟨m, hm, rfl, hA, hB⟩ := hrel
      by_cases hlt : m < zs.length
      · obtain ⟨b, off, hx, hc⟩ := hE.at (by omega)
        obtain rfl : x = ⟨b, off, none⟩ := by simpa using hx
        have hbl := block_lt_of_cell (hc m hlt)
        have hcm : wr.cell? ⟨b, off + m, none⟩ = some (.int .i32 (zs.getD m 0)) := (hB.cell (p := ⟨b, off + m, none⟩) hbl).trans (hc m hlt)
        have hcd := hA.cell m hlt
        have hfd := hA.free m
        clear hc hx
        go_wp2
        go_roundw
        case rel => exact ⟨m + 1, by omega, by go_num, (hA.set m hlt _).congr (fun i _ => cp_step' _ _ _ _ hlt), hB.setCell (by simp) _⟩
        case measure => simp [intOf]; omega
      · obtain rfl : m = zs.length := by omega
        go_wp2
        go_ret
        exact ⟨_, _, rfl, Elems.ofArr hA (Nat.le_refl _) (fun i hi => by simp [cp, hi]), fun h => by simp at h, hB⟩
end Go.Proofs.Qxb6601372a
