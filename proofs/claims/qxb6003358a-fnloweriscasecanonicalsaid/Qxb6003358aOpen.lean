/-
  How an argument of type []string is opened for the walks.
-/
import Derived.Test.Qxb6003358aBase
import Derived.ProofKit
import Derived.ChangeOld
import Derived.OpenShut
namespace Go.Proofs.Qxb6003358a
open Go.ChangeShapes Go.WideShapes Go.ChangeAt Go.RowKit

/-- A slice of strings that came in, as the walks want it. -/
theorem strs_in {H : Type} {enc : TypeId × Value → H} {W : World} {a0 : Option Addr} {len0 cap0 : Nat} {d0 : DataW H} {p0 : List MemPlace}
    (h0 : DataW.Trod enc Try.prog W 0 (fun _ => true) true 22 (.slice a0 len0 cap0) d0 p0) (lt0 : ∀ x ∈ p0, x.block < W.heap.size) :
    ∃ S : Nat → ByteArray, StrsAt W a0 len0 S ∧ len0 ≤ maxLen ∧ ∀ i, (S i).size ≤ maxLen := by
  obtain ⟨fuel, hf⟩ := h0
  rcases open_strings Try.underlying22 Try.underlying9 cells9 hf with ⟨hcs, _⟩ | ⟨x, l, c, ss, hcs, _, hl, hm, hz, hx, hcell, hws⟩
  · simp [Value.cells] at hcs
    obtain ⟨rfl, rfl, rfl⟩ := hcs
    exact ⟨fun _ => ByteArray.empty, .inl rfl, by unfold maxLen; omega, fun _ => by unfold maxLen; simp⟩
  · simp [Value.cells] at hcs
    obtain ⟨rfl, rfl, rfl⟩ := hcs
    simp only [Prod.mk.injEq] at hx
    obtain ⟨_, rfl⟩ := hx
    simp only [if_true] at hz
    refine ⟨fun i => ss.getD i ByteArray.empty, ?_, by omega, fun i => ?_⟩
    · by_cases h0 : len0 = 0
      · exact .inl h0
      · obtain ⟨b, off, spot⟩ := x
        have hspot : spot = none := by simpa [Addr.add] using World.cell?_spot (hcell 0 (by omega))
        subst hspot
        refine .inr ⟨b, off, rfl, lt0 (.cell b off) (MemPlace.mem_row.2 ⟨0, by omega, by simp⟩), fun i hi => ?_⟩
        rw [← add_plain]
        exact hcell i (by omega)
    · by_cases hi : i < ss.length
      · have : ss.getD i ByteArray.empty = ss[i] := by simp [List.getD, hi]
        simp only [this]
        exact hws _ (List.getElem_mem hi)
      · simp [List.getD, List.getElem?_eq_none (Nat.le_of_not_lt hi), maxLen]

end Go.Proofs.Qxb6003358a
