import Derived.Test.Qxb6601400aLaw3
namespace Go.Proofs.Qxb6601400a
open Go.RowKit

/-- A slice of slices of ints that leads to the rows rs. -/
def Rows (w : World) (a : Option Addr) (rs : List (List Int)) : Prop :=
  rs = [] ∨ ∃ b off, a = some ⟨b, off, none⟩ ∧ ∀ k, k < rs.length → ∃ ak ck, w.cell? ⟨b, off + k, none⟩ = some (.slice ak (rs.getD k []).length ck) ∧ Elems .i64 w ak (rs.getD k []) ∧ (ak = none → rs.getD k [] = [])

theorem Rows.below {w w' : World} {a : Option Addr} {rs : List (List Int)} (h : Rows w a rs) {B : Nat} (hb : Below B w w') (hB : w.heap.size ≤ B) : Rows w' a rs := by
  rcases h with h | ⟨b, off, ha, hc⟩
  · exact .inl h
  · refine .inr ⟨b, off, ha, fun k hk => ?_⟩
    obtain ⟨ak, ck, h1, h2, h3⟩ := hc k hk
    exact ⟨ak, ck, (hb.cell (p := ⟨b, off + k, none⟩) (Nat.lt_of_lt_of_le (block_lt_of_cell h1) hB)).trans h1, h2.below hb hB, h3⟩
theorem Rows.at {w : World} {a : Option Addr} {rs : List (List Int)} (h : Rows w a rs) (hn : 0 < rs.length) :
    ∃ b off, a = some ⟨b, off, none⟩ ∧ ∀ k, k < rs.length → ∃ ak ck, w.cell? ⟨b, off + k, none⟩ = some (.slice ak (rs.getD k []).length ck) ∧ Elems .i64 w ak (rs.getD k []) ∧ (ak = none → rs.getD k [] = []) := by
  rcases h with h | h
  · subst h; simp at hn
  · exact h

def HasQ (row : List Int) (x : Int) (w : World) (e : Ending) (w' : World) : Prop := e = .returned (.bool (row.contains x)) ∧ w = w'
theorem contains_take (row : List Int) (x : Int) (m : Nat) (h : ∀ i, i < m → row.getD i 0 ≠ x) (he : m = row.length) : row.contains x = false := by
  cases hc : row.contains x
  · rfl
  · exfalso
    have hx : x ∈ row := by simpa using hc
    obtain ⟨i, hi, rfl⟩ := List.mem_iff_getElem.1 hx
    exact h i (by omega) (by simp [hi])
theorem contains_at (row : List Int) (x : Int) (i : Nat) (hi : i < row.length) (h : row.getD i 0 = x) : row.contains x = true := by
  have : x ∈ row := by rw [← h]; simp [hi]
  simpa using this

set_option maxHeartbeats 400000 in
theorem zzHas (a : Option Addr) (cap : Nat) (row : List Int) (x : Int) (w : World) (hE : Elems .i64 w a row) (hn : row.length ≤ 9223372036854775807) :
    Calls Try.prog 20 #[.slice a row.length cap, .int .i64 x] w (HasQ row x w) := by
  go_enter Try.func20, Try.ntmps20
  go_wp2
  go_loop [5] (fun i => ∃ m : Nat, m ≤ row.length ∧ i = .int .i64 m ∧ Hid (∀ i, i < m → row.getD i 0 ≠ x)) (fun i => row.length - (intOf i).toNat)
  case atStart => exact ⟨0, Nat.zero_le _, rfl, fun i h => by omega⟩
  case round =>
    obtain ⟨m, hm, rfl, hno⟩ := hrel
    by_cases hlt : m < row.length
    · obtain ⟨b, off, rfl, hc⟩ := hE.at (by omega)
      have hcm := hc m hlt
      have HC : Hid (row.getD m 0 = x → row.contains x = true) := contains_at row x m hlt
      obtain ⟨v, hv⟩ : ∃ v, v = row.getD m 0 := ⟨_, rfl⟩
      rw [← hv] at hcm HC
      have HV : Hid (v = row.getD m 0) := hv
      clear hv hc
      cases hvx : (v == x)
      · have hne : v ≠ x := by simpa using hvx
        have HNE : Hid (v ≠ x) := hne
        clear hne
        go_wp2
        go_round
        case rel => exact ⟨m + 1, by omega, by go_num, fun i hi => by
          by_cases c : i = m
          · subst c; rw [← HV.out]; exact HNE.out
          · exact hno.out i (by omega)⟩
        case measure => simp [intOf]; omega
      · have he : row.contains x = true := HC.out (by simpa using hvx)
        have HE : Hid (row.contains x = true) := he
        clear he HC
        go_wp2
        go_ret
        exact ⟨by rw [HE.out]; rfl, rfl⟩
    · obtain rfl : m = row.length := by omega
      have HE : Hid (row.contains x = false) := contains_take row x _ hno.out rfl
      go_wp2
      go_ret
      exact ⟨by rw [HE.out]; rfl, rfl⟩

theorem info4 : (Try.prog.info? 4).map (fun i => (i.zero, i.size, i.bytes)) = some (some (.bool false), 1, 1) := by kernel_rfl
theorem make35 (n : Nat) (hn : n ≤ 1048576) (W : World) : (Instr.makeSlice 35 (.int .i64 (n : Int)) (.int .i64 (n : Int))).run Try.prog W = .ok (.slice (some ⟨W.heap.size, 0, none⟩) n n) (W.alloc (.cells (madeCells #[.bool false] n) 4)) := by
  obtain ⟨i, hi, hz, hs, hb⟩ := info_parts info4
  have h := run_make (P := Try.prog) W 35 4 i _ Try.underlying35 hi hz .i64 .i64 n n (by omega) (Int.le_refl _) (by rw [hb]; omega) (by omega)
  rw [hs] at h
  simpa [Value.cells] using h

/-- The marks of the first m of a group. -/
def markF (gs : List Int) (m j : Nat) : Bool := (gs.take m).contains (j : Int)
theorem markF_step (gs : List Int) (m : Nat) (hm : m < gs.length) (k : Nat) (hk : gs.getD m 0 = (k : Int)) (j : Nat) :
    (if j = k then Value.bool true else .bool (markF gs m j)) = .bool (markF gs (m + 1) j) := by
  unfold markF
  have e : gs.take (m + 1) = gs.take m ++ [gs.getD m 0] := by
    rw [List.take_succ_eq_append_getElem hm]; simp [hm]
  have e2 : (gs.take (m + 1)).contains (j : Int) = ((gs.take m).contains (j : Int) || decide (j = k)) := by
    rw [e, hk, Bool.eq_iff_iff]
    simp only [List.contains_iff_mem, List.mem_append, List.mem_singleton, Bool.or_eq_true, decide_eq_true_eq]
    constructor
    · rintro (h | h)
      · exact .inl h
      · exact .inr (by omega)
    · rintro (h | h)
      · exact .inl h
      · exact .inr (by omega)
  rw [e2]
  by_cases c : j = k <;> simp [c]
theorem markF_full (gs : List Int) (j : Nat) : markF gs gs.length j = gs.contains (j : Int) := by unfold markF; rw [List.take_length]

def MarksQ (gs : List Int) (n : Nat) (w : World) (e : Ending) (w' : World) : Prop :=
  ∃ g, e = .returned (.slice (some ⟨g, 0, none⟩) n n) ∧ Arr w' g n (fun j => .bool (gs.contains (j : Int))) ∧ Below w.heap.size w w'

set_option maxHeartbeats 400000 in
theorem zzMarks (a : Option Addr) (cap : Nat) (gs : List Int) (n : Nat) (w : World) (hE : Elems .i64 w a gs) (hn : n ≤ 1048576) (hgn : gs.length ≤ 1048576) (hr : ∀ i, i < gs.length → 0 ≤ gs.getD i 0 ∧ gs.getD i 0 < (n : Int)) :
    Calls Try.prog 19 #[.slice a gs.length cap, .int .i64 (n : Int)] w (MarksQ gs n w) := by
  have HR : Hid (∀ i, i < gs.length → 0 ≤ gs.getD i 0 ∧ gs.getD i 0 < (n : Int)) := hr
  clear hr
  have hmk := make35 n hn
  go_enter Try.func19, Try.ntmps19
  go_wp2
  clear hmk
  go_loopw [6] (fun i wr => ∃ m : Nat, m ≤ gs.length ∧ i = .int .i64 m ∧ Arr wr w.heap.size n (fun j => .bool (markF gs m j)) ∧ Below w.heap.size w wr) (fun i _ => gs.length - (intOf i).toNat)
  case atStart => exact ⟨0, Nat.zero_le _, rfl, (made_arr w _ _ _).congr (fun i _ => by simp [markF]), (Below.refl _ _).alloc (Nat.le_refl _) _⟩
  case round =>
    obtain ⟨m, hm, rfl, hA, hB⟩ := hrel
    by_cases hlt : m < gs.length
    · obtain ⟨b, off, rfl, hc⟩ := hE.at (by omega)
      have hcm : wr.cell? ⟨b, off + m, none⟩ = some (.int .i64 (gs.getD m 0)) := (hB.cell (p := ⟨b, off + m, none⟩) (block_lt_of_cell (hc m hlt))).trans (hc m hlt)
      have hrm := HR.out m hlt
      obtain ⟨k, hk⟩ : ∃ k : Nat, gs.getD m 0 = (k : Int) := ⟨(gs.getD m 0).toNat, by omega⟩
      rw [hk] at hcm hrm
      have HK : Hid (gs.getD m 0 = (k : Int)) := hk
      have hkn : k < n := by omega
      clear hk hc
      have hcd := hA.cell k hkn
      have hfd := hA.free k
      go_wp2
      go_roundw
      case rel => exact ⟨m + 1, by omega, by go_num, (hA.set k hkn _).congr (fun j _ => markF_step gs m hlt k HK.out j), hB.setCell (Nat.le_refl _) _⟩
      case measure => simp [intOf]; omega
    · obtain rfl : m = gs.length := by omega
      go_wp2
      go_ret
      exact ⟨_, rfl, hA.congr (fun j _ => by rw [markF_full]), hB⟩
end Go.Proofs.Qxb6601400a
