import Derived.Test.Qxb6601400aCyc3
namespace Go.Proofs.Qxb6601400a
open Go.RowKit

/-- A clone, and where it lies. -/
def CloneQ2 (w : World) (zs : List Int) (e : Ending) (w' : World) : Prop :=
  ∃ a' cap', e = .returned (.slice a' zs.length cap') ∧ Elems .i64 w' a' zs ∧ (a' = none → zs = []) ∧ (∀ x, a' = some x → w.heap.size ≤ x.block) ∧ Below w.heap.size w w'

set_option maxHeartbeats 400000 in
theorem cloneInts2 (a : Option Addr) (cap : Nat) (zs : List Int) (w : World) (hE : Elems .i64 w a zs) (hn : zs.length ≤ 1048576) (hnil : a = none → zs = []) :
    Calls Try.prog 8 #[.slice a zs.length cap] w (CloneQ2 w zs) := by
  have q : ∀ (w : World) (a : Option Addr) (n c n' c' : Nat), (binOp .eql 22 (.slice a n c) (.slice none n' c')).run Try.prog w = .ok (.bool a.isNone) w := fun w a n c n' c' => Lib.run_eql_slice_nil w _ _ a n c n' c' Try.underlying22
  cases a with
  | none =>
    obtain rfl := hnil rfl
    go_enter Try.func8, Try.ntmps8
    go_wp2
    go_ret
    exact ⟨none, 0, rfl, .inl rfl, fun _ => rfl, (fun x h => by cases h), Below.refl _ _⟩
  | some x =>
    have hmk := make22 zs.length hn
    go_enter Try.func8, Try.ntmps8
    go_wp2
    clear q hmk
    go_loopw [4] (fun i wr => ∃ m : Nat, m ≤ zs.length ∧ i = .int .i64 m ∧ Arr wr w.heap.size zs.length (cp .i64 zs m) ∧ Below w.heap.size w wr) (fun i _ => zs.length - (intOf i).toNat)
    case atStart => exact ⟨0, Nat.zero_le _, rfl, (made_arr w _ _ _).congr (fun i _ => by simp [cp]), (Below.refl _ _).alloc (Nat.le_refl _) _⟩
    case round =>
      obtain ⟨m, hm, rfl, hA, hB⟩ := hrel
      by_cases hlt : m < zs.length
      · obtain ⟨b, off, hx, hc⟩ := hE.at (by omega)
        obtain rfl : x = ⟨b, off, none⟩ := by simpa using hx
        have hbl := block_lt_of_cell (hc m hlt)
        have hcm : wr.cell? ⟨b, off + m, none⟩ = some (.int .i64 (zs.getD m 0)) := (hB.cell (p := ⟨b, off + m, none⟩) hbl).trans (hc m hlt)
        have hcd := hA.cell m hlt
        have hfd := hA.free m
        clear hc hx
        go_wp2
        go_roundw
        case rel => exact ⟨m + 1, by omega, by go_num, (hA.set m hlt _).congr (fun i _ => cp_step' _ _ _ _ hlt), hB.setCell (by simp) _⟩
        case measure => simp [intOf]; omega
      · obtain rfl : m = zs.length := by omega
        go_wp2
        go_ret
        exact ⟨_, _, rfl, Elems.ofArr hA (Nat.le_refl _) (fun i hi => by simp [cp, hi]), fun h => by simp at h, (fun x h => by cases h; exact Nat.le_refl _), hB⟩

theorem info22 : (Try.prog.info? 22).map (fun i => (i.zero, i.size, i.bytes)) = some (some (.slice none 0 0), 1, 24) := by kernel_rfl
theorem make30 (n : Nat) (hn : n ≤ 1048576) (W : World) : (Instr.makeSlice 30 (.int .i64 (n : Int)) (.int .i64 (n : Int))).run Try.prog W = .ok (.slice (some ⟨W.heap.size, 0, none⟩) n n) (W.alloc (.cells (madeCells #[.slice none 0 0] n) 22)) := by
  obtain ⟨i, hi, hz, hs, hb⟩ := info_parts info22
  have h := run_make (P := Try.prog) W 30 22 i _ Try.underlying30 hi hz .i64 .i64 n n (by omega) (Int.le_refl _) (by rw [hb]; omega) (by omega)
  rw [hs] at h
  simpa [Value.cells] using h

theorem Elems.set {k : IntKind} {w : World} {a : Option Addr} {zs : List Int} (h : Elems k w a zs) {g : Nat} (hg : ∀ x, a = some x → x.block ≠ g) (j : Nat) (v : Value) : Elems k (w.setCell ⟨g, j, none⟩ v) a zs := by
  rcases h with h | ⟨b, off, rfl, hc⟩
  · exact .inl h
  · refine .inr ⟨b, off, rfl, fun i hi => ?_⟩
    have hne := hg _ rfl
    rw [World.cell?_setCell_other w _ _ v (by intro e; injection e with e1; exact hne e1.symm)]
    exact hc i hi

/-- The first m rows are cloned. -/
def RowsTo (w : World) (g : Nat) (rs : List (List Int)) (m : Nat) (F : Nat → Value) : Prop :=
  ∀ k, k < m → ∃ ak ck, F k = .slice ak (rs.getD k []).length ck ∧ Elems .i64 w ak (rs.getD k []) ∧ (ak = none → rs.getD k [] = []) ∧ (∀ x, ak = some x → g < x.block)

def CloneRQ (w : World) (rs : List (List Int)) (e : Ending) (w' : World) : Prop :=
  ∃ a' cap', e = .returned (.slice a' rs.length cap') ∧ Rows w' a' rs ∧ Below w.heap.size w w'

set_option maxRecDepth 100000 in
set_option maxHeartbeats 1000000 in
theorem cloneRows (a : Option Addr) (cap : Nat) (rs : List (List Int)) (w : World) (hR : Rows w a rs) (hn : rs.length ≤ 65536) (hnil : a = none → rs = []) (hrl : ∀ k, k < rs.length → (rs.getD k []).length ≤ 131072) :
    Calls Try.prog 16 #[.slice a rs.length cap] w (CloneRQ w rs) := by
  have q : ∀ (w : World) (a : Option Addr) (n c n' c' : Nat), (binOp .eql 30 (.slice a n c) (.slice none n' c')).run Try.prog w = .ok (.bool a.isNone) w := fun w a n c n' c' => Lib.run_eql_slice_nil w _ _ a n c n' c' Try.underlying30
  have HL : Hid (∀ k, k < rs.length → (rs.getD k []).length ≤ 131072) := hrl
  clear hrl
  cases a with
  | none =>
    obtain rfl := hnil rfl
    go_enter Try.func16, Try.ntmps16
    go_wp2
    go_ret
    exact ⟨none, 0, rfl, .inl rfl, Below.refl _ _⟩
  | some x =>
    have hmk := make30 rs.length (by omega)
    clear hnil
    go_enter Try.func16, Try.ntmps16
    go_wp2
    clear q hmk
    go_loopw [4] (fun i wr => ∃ (m : Nat) (F : Nat → Value), m ≤ rs.length ∧ i = .int .i64 m ∧ Arr wr w.heap.size rs.length F ∧ Hid (RowsTo wr w.heap.size rs m F) ∧ Below w.heap.size w wr) (fun i _ => rs.length - (intOf i).toNat)
    case atStart => exact ⟨0, _, Nat.zero_le _, rfl, made_arr w _ _ _, (fun k h => by omega), (Below.refl _ _).alloc (Nat.le_refl _) _⟩
    case round =>
      obtain ⟨m, F, hm, rfl, hA, hT, hB⟩ := hrel
      by_cases hlt : m < rs.length
      · obtain ⟨b, off, hx, hc⟩ := (hR.below hB (Nat.le_refl _)).at (by omega)
        obtain rfl : x = ⟨b, off, none⟩ := by simpa using hx
        obtain ⟨ak, ck, hcm, hEk, hnk⟩ := hc m hlt
        have hl := HL.out m hlt
        clear hc hx
        have HN : Hid (ak = none → rs.getD m [] = []) := hnk
        clear hnk
        obtain ⟨zs, hzs⟩ : ∃ zs, zs = rs.getD m [] := ⟨_, rfl⟩
        rw [← hzs] at hcm hl hEk HN
        have HZ : Hid (zs = rs.getD m []) := hzs
        clear hzs
        go_wp2_with fail
        refine (cloneInts2 _ _ zs _ hEk (by omega) HN.out).mono ?_
        rintro e w2 ⟨a2, c2, rfl, hE2, hn2, hx2, hB2⟩
        have HN2 : Hid (a2 = none → zs = []) := hn2
        have HX2 : Hid (∀ x, a2 = some x → wr.heap.size ≤ x.block) := hx2
        clear hn2 hx2
        have hA2 := hA.below hB2 hA.lt
        have hcd := hA2.cell m hlt
        have hfd := hA2.free m
        have hgl : w.heap.size < wr.heap.size := hA.lt
        have hT2 : Hid (RowsTo (w2.setCell ⟨w.heap.size, m, none⟩ (.slice a2 zs.length c2)) w.heap.size rs (m + 1) (fun i => if i = m then .slice a2 zs.length c2 else F i)) := by
          intro k hk
          by_cases c : k = m
          · subst c
            refine ⟨a2, c2, by simp only [if_true]; rw [HZ.out], ?_, by rw [← HZ.out]; exact HN2.out, fun x hx => by have := HX2.out x hx; omega⟩
            rw [← HZ.out]
            exact hE2.set (fun x hx => by have := HX2.out x hx; omega) _ _
          · obtain ⟨ak', ck', h1, h2, h3, h4⟩ := hT.out k (by omega)
            exact ⟨ak', ck', by simp only [if_neg c]; exact h1, (h2.below hB2 (Nat.le_refl _)).set (fun x hx => by have := h4 x hx; omega) _ _, h3, h4⟩
        have hA3 := hA2.set m hlt (.slice a2 zs.length c2)
        have HA3 : Hid (Arr (w2.setCell ⟨w.heap.size, m, none⟩ (.slice a2 zs.length c2)) w.heap.size rs.length (fun i => if i = m then .slice a2 zs.length c2 else F i)) := hA3
        clear hA3 hA hT hA2 hE2 hEk
        go_wp2
        go_roundw
        case rel => exact ⟨m + 1, _, by omega, by go_num, HA3.out, hT2, (hB.trans (hB2.mono hB.size)).setCell (Nat.le_refl _) _⟩
        case measure => simp [intOf]; omega
      · obtain rfl : m = rs.length := by omega
        go_wp2
        go_ret
        refine ⟨_, _, rfl, .inr ⟨w.heap.size, 0, rfl, fun k hk => ?_⟩, hB⟩
        obtain ⟨ak, ck, h1, h2, h3, -⟩ := hT.out k hk
        exact ⟨ak, ck, by rw [Nat.zero_add, hA.cell k hk, h1], h2, h3⟩
end Go.Proofs.Qxb6601400a
