import Derived.Test.Qxb6603528aBase
import Derived.Test.Qxb6603528aRows
import Derived.ProofKit
import Derived.OpenShut
import Derived.ShutString
import Derived.ChangeOld
import Derived.SliceStrings
namespace Go.Proofs.Qxb6603528a
open Go.ChangeShapes Go.WideShapes Go.ChangeAt Go.RowKit

theorem own : ownKnob Try.prog.godebug = none := by kernel_rfl
theorem laidOut : laidOutB Try.prog = true := by kernel_rfl

theorem cells_of {w : World} {a : Addr} {len n : Nat} {f : Nat → Value} (h : ∀ i, i < n → w.cell? (a.add i) = some (f i)) (hl : len ≤ n) : Cells w (some a) len f := by
  intro i hi
  have hc := h i (by omega)
  obtain ⟨b, off, spot⟩ := a
  have hspot : spot = none := by simpa [Addr.add] using World.cell?_spot (h 0 (by omega))
  subst hspot
  refine ⟨b, off, rfl, ?_⟩
  by_cases h0 : i = 0
  · subst h0; simpa [Addr.add] using hc
  · simpa [Addr.add, h0] using hc

section
variable {H : Type} {enc : TypeId × Value → H} {W : World}

theorem open_nodes {a : Option Addr} {len cap : Nat} {x : DataW H × List MemPlace} {fuel : Nat} (hf : DataW.trod enc Try.prog W 0 (fun _ => true) true fuel 22 (Value.slice a len cap).cells.toList = some x) :
    ∃ S : Nat → ByteArray, (Cells W a len fun i => .string (S i)) ∧ (∀ i, (S i).size ≤ maxLen) ∧ (a = none → len = 0) := by
  rcases open_strings Try.underlying22 Try.underlying9 (by kernel_rfl) hf with ⟨hcs, _⟩ | ⟨x, l, c, ss, hcs, _, hl, hm, hz, _, hcell, hws⟩
  · simp [Value.cells] at hcs
    obtain ⟨rfl, rfl, rfl⟩ := hcs
    exact ⟨fun _ => ByteArray.empty, fun i hi => absurd hi (by omega), fun _ => by simp [maxLen], fun _ => rfl⟩
  · simp [Value.cells] at hcs
    obtain ⟨rfl, rfl, rfl⟩ := hcs
    refine ⟨fun i => ss.getD i ByteArray.empty, cells_of hcell (by simp at hz; omega), fun i => ?_, fun h => by cases h⟩
    by_cases hi : i < ss.length
    · have : ss.getD i ByteArray.empty ∈ ss := by simp [List.getD_eq_getElem?_getD, List.getElem?_eq_getElem hi]
      exact hws _ this
    · simp [List.getD_eq_getElem?_getD, List.getElem?_eq_none (by omega : ss.length ≤ i), maxLen]
end

end Go.Proofs.Qxb6603528a
