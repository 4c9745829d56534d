import Derived.Test.Qxb6601400aBase
namespace Go.Proofs.Qxb6601400a
open Go.RowKit

theorem info3 : (Try.prog.info? 3).map (fun i => (i.zero, i.size, i.bytes)) = some (some (.int .i64 0), 1, 8) := by kernel_rfl
theorem made_get (z : Value) (n i : Nat) (h : i < n) : (madeCells #[z] n)[i]? = some z := by
  simp [madeCells, h, Nat.mod_one]

theorem make22 (n : Nat) (hn : n ≤ 1048576) (W : World) : (Instr.makeSlice 22 (.int .i64 (n : Int)) (.int .i64 (n : Int))).run Try.prog W = .ok (.slice (some ⟨W.heap.size, 0, none⟩) n n) (W.alloc (.cells (madeCells #[.int .i64 0] n) 3)) := by
  obtain ⟨i, hi, hz, hs, hb⟩ := info_parts info3
  have h := run_make (P := Try.prog) W 22 3 i _ Try.underlying22 hi hz .i64 .i64 n n (by omega) (Int.le_refl _) (by rw [hb]; omega) (by omega)
  rw [hs] at h
  simpa [Value.cells] using h

theorem made_arr (W : World) (z : Value) (n : Nat) (t : TypeId) : Arr (W.alloc (.cells (madeCells #[z] n) t)) W.heap.size n (fun _ => z) := by
  have h := Arr.new W (madeCells #[z] n) t (fun _ => z) (fun i hi => made_get z n i (by simpa [size_madeCells] using hi))
  rwa [size_madeCells] at h

theorem Arr.le {w : World} {b n n' : Nat} {f : Nat → Value} (h : Arr w b n f) (hn : n' ≤ n) : Arr w b n' f := ⟨fun i hi => h.cell i (by omega), h.free, h.lt⟩

/-- The cells behind k rounds of a copy. -/
def cp (k : IntKind) (zs : List Int) (m : Nat) (i : Nat) : Value := if i < m then .int k (zs.getD i 0) else .int k 0
theorem cp_step (k : IntKind) (zs : List Int) (m : Nat) (i : Nat) : (if i = m then Value.int k (zs.getD m 0) else cp k zs m i) = cp k zs (m + 1) i := by
  unfold cp
  by_cases h : i = m
  · subst h; simp
  · by_cases h2 : i < m
    · rw [if_neg h, if_pos h2, if_pos (by omega)]
    · rw [if_neg h, if_neg h2, if_neg (by omega)]

theorem cp_step' (k : IntKind) (zs : List Int) (m : Nat) (i : Nat) (h : m < zs.length) : (if i = m then Value.int k zs[m] else cp k zs m i) = cp k zs (m + 1) i := by
  rw [← cp_step]; simp [h]

/-- What a clone hands back: a slice over the same numbers; old memory as it was. -/
def CloneQ (k : IntKind) (w : World) (zs : List Int) (e : Ending) (w' : World) : Prop :=
  ∃ a' cap', e = .returned (.slice a' zs.length cap') ∧ Elems k w' a' zs ∧ (a' = none → zs = []) ∧ Below w.heap.size w w'

set_option maxHeartbeats 400000 in
theorem cloneInts (a : Option Addr) (cap : Nat) (zs : List Int) (w : World) (hE : Elems .i64 w a zs) (hn : zs.length ≤ 1048576) (hnil : a = none → zs = []) :
    Calls Try.prog 8 #[.slice a zs.length cap] w (CloneQ .i64 w zs) := by
  have q : ∀ (w : World) (a : Option Addr) (n c n' c' : Nat), (binOp .eql 22 (.slice a n c) (.slice none n' c')).run Try.prog w = .ok (.bool a.isNone) w := fun w a n c n' c' => Lib.run_eql_slice_nil w _ _ a n c n' c' Try.underlying22
  cases a with
  | none =>
    obtain rfl := hnil rfl
    go_enter Try.func8, Try.ntmps8
    go_wp2
    go_ret
    exact ⟨none, 0, rfl, .inl rfl, fun _ => rfl, Below.refl _ _⟩
  | some x =>
    have hmk := make22 zs.length hn
    go_enter Try.func8, Try.ntmps8
    go_wp2
    clear q hmk
    go_loopw [4] (fun i wr => ∃ m : Nat, m ≤ zs.length ∧ i = .int .i64 m ∧ Arr wr w.heap.size zs.length (cp .i64 zs m) ∧ Below w.heap.size w wr) (fun i _ => zs.length - (intOf i).toNat)
    case atStart => exact ⟨0, Nat.zero_le _, rfl, (made_arr w _ _ _).congr (fun i _ => by simp [cp]), (Below.refl _ _).alloc (Nat.le_refl _) _⟩
    case round =>
      obtain ⟨m, hm, rfl, hA, hB⟩ := hrel
      by_cases hlt : m < zs.length
      · obtain ⟨b, off, hx, hc⟩ := hE.at (by omega)
        obtain rfl : x = ⟨b, off, none⟩ := by simpa using hx
        have hbl := block_lt_of_cell (hc m hlt)
        have hcm : wr.cell? ⟨b, off + m, none⟩ = some (.int .i64 (zs.getD m 0)) := (hB.cell (p := ⟨b, off + m, none⟩) hbl).trans (hc m hlt)
        have hcd := hA.cell m hlt
        have hfd := hA.free m
        clear hc hx
        go_wp2
        go_roundw
        case rel => exact ⟨m + 1, by omega, by go_num, (hA.set m hlt _).congr (fun i _ => cp_step' _ _ _ _ hlt), hB.setCell (by simp) _⟩
        case measure => simp [intOf]; omega
      · obtain rfl : m = zs.length := by omega
        go_wp2
        go_ret
        exact ⟨_, _, rfl, Elems.ofArr hA (Nat.le_refl _) (fun i hi => by simp [cp, hi]), fun h => by simp at h, hB⟩
end Go.Proofs.Qxb6601400a
