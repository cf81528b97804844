import Derived.Test.Qxb6604683aProg
import Derived.WalkKit
import Derived.WalkSpells
import Derived.WalkLawsBesides
import Derived.Deep.QuietTactic
import Derived.BigQuiet
import Derived.BigRegion
import Derived.Deep.LoopGhost
namespace Go.Proofs.Qxb6604683a
open Go.RowKit

/-- The five columns' names, in the table's order. -/
def nameB : Nat → ByteArray
  | 0 => ⟨#[111, 114, 103]⟩
  | 1 => ⟨#[114, 111, 108, 101]⟩
  | 2 => ⟨#[114, 101, 115, 111, 117, 114, 99, 101]⟩
  | 3 => ⟨#[97, 99, 116, 105, 111, 110]⟩
  | _ => ⟨#[104, 111, 108, 100, 115]⟩

/-- The columns' row at block cb: each element a name and a pointer into the row at block rb. -/
def Cols (w : World) (cb rb : Nat) : Prop :=
  ∀ j, j < 5 → w.cell? ⟨cb, j * 2, none⟩ = some (.string (nameB j)) ∧ w.cell? ⟨cb, j * 2 + 1, none⟩ = some (.pointer (some ⟨rb, j, none⟩))

theorem Cols.below {w w' : World} {cb rb B : Nat} (h : Cols w cb rb) (hb : Below B w w') (hB : cb < B) : Cols w' cb rb := by
  intro j hj
  rw [hb.cell (by exact hB), hb.cell (by exact hB)]
  exact h j hj

def colCells (rb : Nat) : Array Value := #[.string ⟨#[111, 114, 103]⟩, .pointer (some ⟨rb, 0, none⟩), .string ⟨#[114, 111, 108, 101]⟩, .pointer (some ⟨rb, 1, none⟩), .string ⟨#[114, 101, 115, 111, 117, 114, 99, 101]⟩, .pointer (some ⟨rb, 2, none⟩),
  .string ⟨#[97, 99, 116, 105, 111, 110]⟩, .pointer (some ⟨rb, 3, none⟩), .string ⟨#[104, 111, 108, 100, 115]⟩, .pointer (some ⟨rb, 4, none⟩)]

theorem Cols.new (w : World) (rb : Nat) : Cols (w.alloc (.cells (colCells rb) 37)).drew w.heap.size rb := by
  intro j hj
  have e : ∀ i, (w.alloc (.cells (colCells rb) 37)).drew.cell? ⟨w.heap.size, i, none⟩ = (colCells rb)[i]? := fun i => World.cell?_alloc_at (w := w) _ _ _ _ rfl
  rw [e, e]
  match j, hj with
  | 0, _ | 1, _ | 2, _ | 3, _ | 4, _ => exact ⟨rfl, rfl⟩

set_option maxHeartbeats 1000000 in
theorem cols23 (rb : Nat) (w : World) :
    Calls Try.prog 23 #[.pointer (some ⟨rb, 0, none⟩)] w fun e w' => e = .returned (.slice (some ⟨w.heap.size, 0, none⟩) 5 5) ∧ Cols w' w.heap.size rb ∧ Below w.heap.size w w' ∧ w'.heap.size = w.heap.size + 1 := by
  go_enter Try.func23, Try.ntmps23
  go_wp2
  go_region
  go_wp2
  go_ret
  exact ⟨rfl, Cols.new w rb, ((Below.refl _ _).alloc (Nat.le_refl _) _).drew, by simp⟩

set_option maxHeartbeats 400000 in
theorem cols11 (rb : Nat) (w : World) :
    Calls Try.prog 11 #[.pointer (some ⟨rb, 0, none⟩)] w fun e w' => e = .returned (.slice (some ⟨w.heap.size, 0, none⟩) 5 5) ∧ Cols w' w.heap.size rb ∧ Below w.heap.size w w' ∧ w'.heap.size = w.heap.size + 1 := by
  go_enter Try.func11, Try.ntmps11
  go_wp2_with fail
  refine (cols23 rb w).mono ?_
  rintro e w1 ⟨rfl, hc, hb, hz⟩
  have HZ : Hid (w1.heap.size = w.heap.size + 1) := hz
  clear hz
  go_wp2
  go_ret
  exact ⟨rfl, hc, hb, HZ.out⟩

set_option maxHeartbeats 400000 in
theorem name12 (s : ByteArray) (p : Option Addr) (w : World) :
    Calls Try.prog 12 #[.agg #[.string s, .pointer p]] w fun e w' => e = .returned (.string s) ∧ w.alloc (.cells #[.string s, .pointer p] 37) = w' := by
  go_enter Try.func12, Try.ntmps12
  go_wp2
  go_ret
  exact ⟨rfl, rfl⟩

set_option maxHeartbeats 400000 in
theorem dst13 (s : ByteArray) (p : Option Addr) (w : World) :
    Calls Try.prog 13 #[.agg #[.string s, .pointer p]] w fun e w' => e = .returned (.pointer p) ∧ w.alloc (.cells #[.string s, .pointer p] 37) = w' := by
  go_enter Try.func13, Try.ntmps13
  go_wp2
  go_ret
  exact ⟨rfl, rfl⟩
end Go.Proofs.Qxb6604683a
