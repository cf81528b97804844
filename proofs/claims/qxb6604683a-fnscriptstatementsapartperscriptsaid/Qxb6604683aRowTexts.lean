import Derived.Test.Qxb6604683aTexts
import Derived.ProofKit
import Derived.OpenShut
import Derived.SliceStrings
namespace Go.Proofs.Qxb6604683a
open Go.ChangeShapes Go.WideShapes Go.ChangeAt Go.RowKit

theorem sdat_open {H : Type} {enc : TypeId × Value → H} {W : World} {a : Option Addr} {len cap fuel : Nat} {x : DataW H × List MemPlace}
    (hf : DataW.trod enc Try.prog W 0 (fun _ => true) true fuel 39 (Value.slice a len cap).cells.toList = some x) : ∃ xs : List ByteArray, xs.length = len ∧ xs.length ≤ maxLen ∧ SDat W W.heap.size xs a := by
  rcases open_strings Try.underlying39 Try.underlying9 (by kernel_rfl) hf with ⟨hcs, _⟩ | ⟨x, l, c, ss, hcs, _, hl, hm, hz, _, hcell, _⟩
  · simp [Value.cells] at hcs
    obtain ⟨rfl, rfl, rfl⟩ := hcs
    exact ⟨[], rfl, by simp, fun k c hk => by simp at hk⟩
  · simp [Value.cells] at hcs
    obtain ⟨rfl, rfl, rfl⟩ := hcs
    have hz' : ss.length = cap := by simpa using hz
    have ht : (ss.take len).length = len := by simp; omega
    refine ⟨ss.take len, ht, by omega, fun k t hk => ?_⟩
    have hk' : k < len := by have := (List.getElem?_eq_some_iff.1 hk).1; omega
    rw [List.getElem?_take_of_lt hk'] at hk
    obtain ⟨b, off, spot⟩ := x
    have hspot : spot = none := by simpa [Addr.add] using World.cell?_spot (hcell 0 (by omega))
    subst hspot
    have hc := hcell k (by omega)
    rw [Addr.add_lit] at hc
    have e : ss.getD k ByteArray.empty = t := by simp [List.getD, hk]
    rw [e] at hc
    exact ⟨b, off, rfl, World.block_lt_of_cell? _ _ hc, hc⟩
end Go.Proofs.Qxb6604683a
