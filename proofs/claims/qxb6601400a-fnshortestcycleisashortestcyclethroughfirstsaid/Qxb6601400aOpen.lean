import Derived.Test.Qxb6601400aBase
import Derived.OpenShut
namespace Go.Proofs.Qxb6601400a
open Go.RowKit

/-- From what the row's frame says of a slice of integers that came in to the walks' own word. -/
theorem row_elems {k : IntKind} {w : World} {a : Option Addr} {len cap : Nat} {zs : List Int}
    (h : (a = none ∧ len = 0 ∧ cap = 0 ∧ zs = []) ∨ ∃ x, a = some x ∧ len ≤ cap ∧ cap ≤ maxLen ∧ zs.length = cap ∧ (∀ i, i < zs.length → w.cell? (x.add i) = some (.int k (zs.getD i 0))) ∧ ∀ n ∈ zs, (Lit.int k n).wf = true) :
    Elems k w a (zs.take len) ∧ (zs.take len).length = len ∧ (a = none → zs.take len = []) ∧ len ≤ 9223372036854775807 ∧ ∀ n ∈ zs.take len, (Lit.int k n).wf = true := by
  rcases h with ⟨rfl, rfl, rfl, rfl⟩ | ⟨x, rfl, hl, hm, hz, hcell, hwz⟩
  · exact ⟨.inl rfl, rfl, fun _ => rfl, by omega, fun n hn => by simp at hn⟩
  · unfold maxLen at hm
    have hlen : (zs.take len).length = len := by simp; omega
    refine ⟨?_, hlen, (fun h => by cases h), by omega, fun n hn => hwz n (List.mem_of_mem_take hn)⟩
    by_cases h0 : len = 0
    · subst h0; exact .inl rfl
    · obtain ⟨b, off, spot⟩ := x
      have hc := hcell 0 (by omega)
      have hspot : spot = none := by simpa [Addr.add] using World.cell?_spot hc
      subst hspot
      refine .inr ⟨b, off, rfl, fun i hi => ?_⟩
      have := hcell i (by omega)
      rw [hlen] at hi
      have e : (⟨b, off, none⟩ : Addr).add i = ⟨b, off + i, none⟩ := by
        unfold Addr.add
        by_cases c : i = 0
        · subst c; simp
        · simp [c]
      rw [e] at this
      simpa [hi] using this

theorem getD_range {lo hi : Int} {zs : List Int} (h0 : lo ≤ 0 ∧ 0 ≤ hi) (h : ∀ n ∈ zs, lo ≤ n ∧ n ≤ hi) (i : Nat) : lo ≤ zs.getD i 0 ∧ zs.getD i 0 ≤ hi := by
  by_cases c : i < zs.length
  · have : zs.getD i 0 = zs[i] := by simp [c]
    rw [this]; exact h _ (List.getElem_mem c)
  · have : zs.getD i 0 = 0 := by simp [Nat.le_of_not_lt c]
    rw [this]; exact h0
end Go.Proofs.Qxb6601400a
