import Derived.Test.Qxb6601400aTree
namespace Go.Proofs.Qxb6601400a
open Go.RowKit

def ZTreeQ (w : World) (xs : List Int) (e : Ending) (w' : World) : Prop :=
  ∃ (L : Nat) (T : Nat → Int) (g : Nat), e = .returned (.tuple #[.int .i64 (L : Int), .slice (some ⟨g, 0, none⟩) (2 * L) (2 * L)]) ∧ IsPow L xs.length ∧ xs.length ≤ L ∧ L ≤ 262144 ∧
    Tree L (fun i => xs.getD i 0) 0 T ∧ Arr w' g (2 * L) (fun k => .int .i64 (T k)) ∧ Below w.heap.size w w'

set_option maxHeartbeats 1000000 in
theorem zzNewTree (a : Option Addr) (cap : Nat) (xs : List Int) (w : World) (hE : Elems .i64 w a xs) (hn : xs.length ≤ 131072) :
    Calls Try.prog 9 #[.slice a xs.length cap] w (ZTreeQ w xs) := by
  go_enter Try.func9, Try.ntmps9
  go_wp2_with fail
  refine (newTree a cap xs _ hE hn).mono ?_
  rintro e w1 ⟨L, T, g, rfl, hP, hle, hL, hT, hA, hB⟩
  have HP : Hid (IsPow L xs.length) := hP
  have HT : Hid (Tree L (fun i => xs.getD i 0) 0 T) := hT
  clear hP hT
  go_wp2
  go_quiet (fail)
  go_wp2
  go_ret2
  exact ⟨L, T, g, rfl, HP.out, hle, hL, HT.out, hA.below (((Below.refl w1.heap.size w1).alloc (Nat.le_refl _) _).trans ⟨rfl, rfl, rfl, Nat.le_refl _, fun _ _ => rfl⟩) hA.lt, (hB.alloc hB.size _).trans ⟨rfl, rfl, rfl, Nat.le_refl _, fun _ _ => rfl⟩⟩

def AtQ (v : Int) (w : World) (e : Ending) (w' : World) : Prop := e = .returned (.int .i64 v) ∧ w = w'
set_option maxHeartbeats 1000000 in
theorem zzAt (a : Option Addr) (cap : Nat) (xs : List Int) (z : Int) (w : World) (hE : Elems .i64 w a xs) (h0 : 0 ≤ z) :
    Calls Try.prog 10 #[.slice a xs.length cap, .int .i64 z] w (AtQ (xs.getD z.toNat 0) w) := by
  obtain ⟨i, rfl⟩ := Int.eq_ofNat_of_zero_le h0
  rw [Int.toNat_natCast]
  by_cases h : i < xs.length
  · obtain ⟨b, off, rfl, hc⟩ := hE.at (by omega)
    have hci := hc i h
    clear hc
    obtain ⟨v, hv⟩ : ∃ v, v = xs.getD i 0 := ⟨_, rfl⟩
    rw [← hv] at hci ⊢
    clear hv
    go_enter Try.func10, Try.ntmps10
    go_wp2
    go_ret
    exact ⟨rfl, rfl⟩
  · have : xs.getD i 0 = 0 := by simp [Nat.le_of_not_lt h]
    rw [this]
    clear this
    go_enter Try.func10, Try.ntmps10
    go_wp2
    go_ret
    exact ⟨rfl, rfl⟩
end Go.Proofs.Qxb6601400a
