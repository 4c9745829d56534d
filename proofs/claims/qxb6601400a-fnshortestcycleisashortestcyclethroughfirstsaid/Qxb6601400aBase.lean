/-
  SMALL LAWS ON ROWS OF CELLS, for the walks of this seat. No Go function is named here.
-/
import Derived.Test.Qxb6601400aProg
import Derived.WalkKit
import Derived.WalkSpells
import Derived.Below
import Derived.KernelRfl
namespace Go.Proofs.Qxb6601400a
open Go.RowKit

/-- The first n cells of block b hold f 0, f 1, ..; no cell of the block is frozen. -/
structure Arr (w : World) (b n : Nat) (f : Nat → Value) : Prop where
  cell : ∀ i, i < n → w.cell? ⟨b, i, none⟩ = some (f i)
  free : ∀ i, w.frozen? ⟨b, i, none⟩ = false
  lt : b < w.heap.size

theorem Arr.set {w : World} {b n : Nat} {f : Nat → Value} (h : Arr w b n f) (j : Nat) (hj : j < n) (v : Value) :
    Arr (w.setCell ⟨b, j, none⟩ v) b n (fun i => if i = j then v else f i) := by
  refine ⟨fun i hi => ?_, fun i => by simp [h.free i], by simpa using h.lt⟩
  by_cases e : i = j
  · subst e
    simpa using World.cell?_setCell_same w _ v (h.cell i hi)
  · rw [World.cell?_setCell_other w _ _ v (by intro h; injection h; omega)]
    simpa [e] using h.cell i hi

theorem Arr.other {w : World} {b n : Nat} {f : Nat → Value} (h : Arr w b n f) {a : Addr} (ha : a.block ≠ b) (v : Value) :
    Arr (w.setCell a v) b n f := by
  refine ⟨fun i hi => ?_, fun i => by simp [h.free i], by simpa using h.lt⟩
  rw [World.cell?_setCell_other w _ _ v (by intro e; subst e; exact ha rfl)]
  exact h.cell i hi

theorem Arr.below {w w' : World} {b n B : Nat} {f : Nat → Value} (h : Arr w b n f) (hb : Below B w w') (hB : b < B) : Arr w' b n f :=
  ⟨fun i hi => (hb.cell (p := ⟨b, i, none⟩) hB).trans (h.cell i hi), fun i => (hb.frozen (p := ⟨b, i, none⟩) hB).trans (h.free i), Nat.lt_of_lt_of_le h.lt hb.size⟩

theorem Arr.drew {w : World} {b n : Nat} {f : Nat → Value} (h : Arr w b n f) : Arr w.drew b n f := ⟨h.cell, h.free, h.lt⟩

theorem Arr.alloc {w : World} {b n : Nat} {f : Nat → Value} (h : Arr w b n f) (o : Obj) : Arr (w.alloc o) b n f :=
  h.below ((Below.refl w.heap.size w).alloc (Nat.le_refl _) o) h.lt

theorem Arr.congr {w : World} {b n : Nat} {f g : Nat → Value} (h : Arr w b n f) (e : ∀ i, i < n → f i = g i) : Arr w b n g :=
  ⟨fun i hi => (h.cell i hi).trans (by rw [e i hi]), h.free, h.lt⟩

/-- A new block of literal cells. -/
theorem Arr.new (w : World) (c : Array Value) (t : TypeId) (f : Nat → Value) (e : ∀ i, i < c.size → c[i]? = some (f i)) :
    Arr (w.alloc (.cells c t)) w.heap.size c.size f :=
  ⟨fun i hi => (World.cell?_alloc_new w c t i).trans (e i hi), fun i => World.frozen?_alloc_new w c t i, by simp⟩

/-- A slice that leads to the numbers zs (kind k): empty, or the cells lie there. -/
def Elems (k : IntKind) (w : World) (a : Option Addr) (zs : List Int) : Prop :=
  zs = [] ∨ ∃ b off, a = some ⟨b, off, none⟩ ∧ ∀ i, i < zs.length → w.cell? ⟨b, off + i, none⟩ = some (.int k (zs.getD i 0))

theorem Elems.below {k : IntKind} {w w' : World} {a : Option Addr} {zs : List Int} (h : Elems k w a zs) {B : Nat} (hb : Below B w w') (hB : w.heap.size ≤ B) : Elems k w' a zs := by
  rcases h with h | ⟨b, off, ha, hc⟩
  · exact .inl h
  · exact .inr ⟨b, off, ha, fun i hi => (hb.cell (p := ⟨b, off + i, none⟩) (Nat.lt_of_lt_of_le (block_lt_of_cell (hc i hi)) hB)).trans (hc i hi)⟩

theorem Elems.ofArr {k : IntKind} {w : World} {b n : Nat} {f : Nat → Value} {zs : List Int} (h : Arr w b n f) (hn : zs.length ≤ n) (e : ∀ i, i < zs.length → f i = .int k (zs.getD i 0)) :
    Elems k w (some ⟨b, 0, none⟩) zs :=
  .inr ⟨b, 0, rfl, fun i hi => by rw [Nat.zero_add, h.cell i (by omega), e i hi]⟩

/-- What a slice that is not empty gives the walk. -/
theorem Elems.at {k : IntKind} {w : World} {a : Option Addr} {zs : List Int} (h : Elems k w a zs) (hn : 0 < zs.length) :
    ∃ b off, a = some ⟨b, off, none⟩ ∧ ∀ i, i < zs.length → w.cell? ⟨b, off + i, none⟩ = some (.int k (zs.getD i 0)) := by
  rcases h with h | h
  · subst h; simp at hn
  · exact h

end Go.Proofs.Qxb6601400a
