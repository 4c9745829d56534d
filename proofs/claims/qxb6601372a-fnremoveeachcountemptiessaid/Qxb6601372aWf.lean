import Derived.Test.Qxb6601372aClone
namespace Go.Proofs.Qxb6601372a
open Go.RowKit

def zb256 : Array Value := Array.replicate 256 (.bool false)
def zi256 : Array Value := Array.replicate 256 (.int .i64 0)
theorem zero45 (W : World) : (zeroValue 45).run Try.prog W = .ok (.agg zb256) W := by kernel_rfl
theorem zero44 (W : World) : (zeroValue 44).run Try.prog W = .ok (.agg zi256) W := by kernel_rfl
theorem zb_arr (W : World) : Arr (W.alloc (.cells zb256 45)) W.heap.size 256 (fun _ => .bool false) := by
  have h := Arr.new W zb256 45 (fun _ => .bool false) (fun i hi => by simp [zb256] at hi; unfold zb256; rw [Array.getElem?_replicate, if_pos hi])
  simpa [zb256] using h
theorem zi_arr (W : World) : Arr (W.alloc (.cells zi256 44)) W.heap.size 256 (fun _ => .int .i64 0) := by
  have h := Arr.new W zi256 44 (fun _ => .int .i64 0) (fun i hi => by simp [zi256] at hi; unfold zi256; rw [Array.getElem?_replicate, if_pos hi])
  simpa [zi256] using h

/-- One count per mode, modes distinct, every count at least 1: of the first m. -/
structure WF (ms ns : List Int) (m : Nat) : Prop where
  dist : ∀ i j, i < j → j < m → ms.getD i 0 ≠ ms.getD j 0
  pos : ∀ i, i < m → 1 ≤ ns.getD i 0

def seenF (ms : List Int) (m : Nat) (j : Nat) : Bool := (ms.take m).any fun z => z + 128 == (j : Int)
theorem seenF_iff (ms : List Int) (m : Nat) (hm : m ≤ ms.length) (j : Nat) : seenF ms m j = true ↔ ∃ i, i < m ∧ ms.getD i 0 + 128 = (j : Int) := by
  unfold seenF
  rw [List.any_eq_true]
  constructor
  · rintro ⟨z, hz, h⟩
    obtain ⟨i, hi, rfl⟩ := List.mem_iff_getElem.1 hz
    simp at hi h
    exact ⟨i, by omega, by simp [show i < ms.length from by omega]; exact h⟩
  · rintro ⟨i, hi, h⟩
    refine ⟨ms.getD i 0, ?_, by simp at h ⊢; exact h⟩
    rw [List.mem_iff_getElem]
    exact ⟨i, by simp; omega, by simp [show i < ms.length from by omega]⟩
theorem seenF_step (ms : List Int) (m : Nat) (hm : m < ms.length) (k : Nat) (hk : ms.getD m 0 + 128 = (k : Int)) (j : Nat) :
    (if j = k then Value.bool true else .bool (seenF ms m j)) = .bool (seenF ms (m + 1) j) := by
  have e1 := seenF_iff ms m (by omega) j
  have e2 := seenF_iff ms (m + 1) (by omega) j
  have e : seenF ms (m + 1) j = (decide (j = k) || seenF ms m j) := by
    rw [Bool.eq_iff_iff, e2, Bool.or_eq_true, e1, decide_eq_true_iff]
    constructor
    · rintro ⟨i, hi, h⟩
      by_cases c : i = m
      · subst c; left; omega
      · right; exact ⟨i, by omega, h⟩
    · rintro (h | ⟨i, hi, h⟩)
      · exact ⟨m, by omega, by omega⟩
      · exact ⟨i, by omega, h⟩
  rw [e]
  by_cases c : j = k <;> simp [c]
theorem seenF_no (ms ns : List Int) (m : Nat) (hm : m < ms.length) (k : Nat) (hk : ms.getD m 0 + 128 = (k : Int)) (hs : seenF ms m k = false) (hp : 1 ≤ ns.getD m 0) (h : WF ms ns m) : WF ms ns (m + 1) := by
  refine ⟨fun i j hij hj => ?_, fun i hi => ?_⟩
  · by_cases c : j = m
    · subst c
      intro e
      have : seenF ms j k = true := (seenF_iff ms j (by omega) k).2 ⟨i, hij, by rw [e]; exact hk⟩
      rw [hs] at this; cases this
    · exact h.dist i j hij (by omega)
  · by_cases c : i = m
    · subst c; exact hp
    · exact h.pos i (by omega)

def WfQ (w : World) (ms ns : List Int) (e : Ending) (w' : World) : Prop :=
  ∃ b, e = .returned (.bool b) ∧ (b = true → ms.length = ns.length ∧ WF ms ns ms.length) ∧ Below w.heap.size w w'

set_option maxHeartbeats 400000 in
theorem wellFormed (a a2 : Option Addr) (cap cap2 : Nat) (ms ns : List Int) (w : World) (hM : Elems .i8 w a ms) (hN : Elems .i32 w a2 ns) (hn : ms.length ≤ 1048576)
    (hr : ∀ i, -128 ≤ ms.getD i 0 ∧ ms.getD i 0 ≤ 127) :
    Calls Try.prog 22 #[.slice a ms.length cap, .slice a2 ns.length cap2] w (WfQ w ms ns) := by
  have hal := zero45
  by_cases hl : ms.length = ns.length
  · have hl' : ((ms.length : Int) != (ns.length : Int)) = false := by simp; omega
    have HL : Hid (ms.length = ns.length) := hl
    clear hl
    go_enter Try.func22, Try.ntmps22
    go_wp2
    clear hal
    go_loopw [6] (fun i wr => ∃ m : Nat, m ≤ ms.length ∧ i = .int .i64 m ∧ Arr wr w.heap.size 256 (fun j => .bool (seenF ms m j)) ∧ WF ms ns m ∧ Below w.heap.size w wr) (fun i _ => ms.length - (intOf i).toNat)
    case atStart => exact ⟨0, Nat.zero_le _, rfl, (zb_arr w).congr (fun i _ => by simp [seenF]), ⟨fun i j _ h => by omega, fun i h => by omega⟩, (Below.refl _ _).alloc (Nat.le_refl _) _⟩
    case round =>
      obtain ⟨m, hm, rfl, hA, hW, hB⟩ := hrel
      by_cases hlt : m < ms.length
      · have hlt2 : m < ns.length := by have := HL.out; omega
        obtain ⟨b, off, rfl, hc⟩ := hM.at (by omega)
        obtain ⟨b2, off2, rfl, hc2⟩ := hN.at (by omega)
        have hcm : wr.cell? ⟨b, off + m, none⟩ = some (.int .i8 (ms.getD m 0)) := (hB.cell (p := ⟨b, off + m, none⟩) (block_lt_of_cell (hc m hlt))).trans (hc m hlt)
        have hcn : wr.cell? ⟨b2, off2 + m, none⟩ = some (.int .i32 (ns.getD m 0)) := (hB.cell (p := ⟨b2, off2 + m, none⟩) (block_lt_of_cell (hc2 m hlt2))).trans (hc2 m hlt2)
        clear hc hc2 hM hN
        have hrm := hr m
        clear hr
        generalize hz : ms.getD m 0 = z at *
        generalize hy : ns.getD m 0 = y at *
        have HZ : Hid (ms.getD m 0 = z) := hz
        have HY : Hid (ns.getD m 0 = y) := hy
        clear hz hy
        obtain ⟨k, hk⟩ : ∃ k : Nat, z + 128 = (k : Int) := ⟨(z + 128).toNat, by omega⟩
        have hk2 : k < 256 := by omega
        have hcd := hA.cell k hk2
        have hfd := hA.free k
        have HA : Hid (Arr wr w.heap.size 256 (fun j => .bool (seenF ms m j))) := hA
        have HW : Hid (WF ms ns m) := hW
        clear hA hW
        cases hs : seenF ms m k
        · rw [hs] at hcd
          by_cases hp : y < 1
          · go_wp2
            go_ret
            exact ⟨false, rfl, (fun h => by cases h), hB⟩
          · go_wp2
            go_roundw
            case rel => exact ⟨m + 1, by omega, by go_num, (HA.out.set k hk2 _).congr (fun j _ => seenF_step ms m hlt k (by rw [HZ.out]; exact hk) j), seenF_no ms ns m hlt k (by rw [HZ.out]; exact hk) hs (by rw [HY.out]; omega) HW.out, hB.setCell (by simp) _⟩
            case measure => simp [intOf]; omega
        · rw [hs] at hcd
          go_wp2
          go_ret
          exact ⟨false, rfl, (fun h => by cases h), hB⟩
      · obtain rfl : m = ms.length := by omega
        go_wp2
        go_ret
        exact ⟨true, rfl, fun _ => ⟨HL.out, hW⟩, hB⟩
  · have hl' : ((ms.length : Int) != (ns.length : Int)) = true := by simp; omega
    go_enter Try.func22, Try.ntmps22
    go_wp2
    go_ret
    exact ⟨false, rfl, (fun h => by cases h), Below.refl _ _⟩
end Go.Proofs.Qxb6601372a
