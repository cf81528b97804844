import Derived.Test.Qxb6603827aSpace
import Derived.ProofKit
import Derived.OpenShut
namespace Go.Proofs.Qxb6603827a
open Go.ChangeShapes Go.WideShapes Go.ChangeAt Go.RowKit

/-- A slice of bytes that came in: its elements, as the walks ask for them. -/
theorem dat_of_ints {W : World} {x : Addr} {len cap : Nat} {zall : List Int} (hl : len ≤ cap) (hz : zall.length = cap) (hcell : ∀ i, i < zall.length → W.cell? (x.add i) = some (.int .u8 (zall.getD i 0)))
    (hw : ∀ n ∈ zall, (Lit.int .u8 n).wf = true) : Dat W W.heap.size (zall.take len) (some x) := by
  intro k c hk
  have hk' : k < len := by have := (List.getElem?_eq_some_iff.1 hk).1; simp at this; omega
  rw [List.getElem?_take_of_lt hk'] at hk
  obtain ⟨b, off, spot⟩ := x
  have hspot : spot = none := by simpa [Addr.add] using World.cell?_spot (hcell 0 (by omega))
  subst hspot
  have hc := hcell k (by omega)
  rw [Addr.add_lit] at hc
  have e : zall.getD k 0 = c := by simp [List.getD, hk]
  rw [e] at hc
  have hb := bounds_u8 (hw c (List.mem_of_getElem? hk))
  exact ⟨b, off, rfl, World.block_lt_of_cell? _ _ hc, hc, by omega, by omega⟩

theorem dat_open {H : Type} {enc : TypeId × Value → H} {W : World} {a : Option Addr} {len cap fuel : Nat} {x : DataW H × List MemPlace}
    (hf : DataW.trod enc Try.prog W 0 (fun _ => true) true fuel 22 (Value.slice a len cap).cells.toList = some x) : ∃ zs : List Int, zs.length = len ∧ zs.length ≤ maxLen ∧ Dat W W.heap.size zs a := by
  rcases open_ints Try.underlying22 Try.underlying5 (by kernel_rfl) hf with ⟨hcs, _⟩ | ⟨x, l, c, zs, hcs, _, hl, hm, hz, _, hcell, hwz⟩
  · simp [Value.cells] at hcs
    obtain ⟨rfl, rfl, rfl⟩ := hcs
    exact ⟨[], rfl, by simp, fun k c hk => by simp at hk⟩
  · simp [Value.cells] at hcs
    obtain ⟨rfl, rfl, rfl⟩ := hcs
    have hz' : zs.length = cap := by simpa using hz
    have ht : (zs.take len).length = len := by simp; omega
    exact ⟨zs.take len, ht, by omega, dat_of_ints hl hz' hcell hwz⟩
end Go.Proofs.Qxb6603827a
