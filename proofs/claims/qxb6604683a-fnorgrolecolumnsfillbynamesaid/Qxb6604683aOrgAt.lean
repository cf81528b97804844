import Derived.Test.Qxb6604683aCols
namespace Go.Proofs.Qxb6604683a
open Go.RowKit

/-- The k-th key of the law names field fK k. -/
def fK : Nat → Nat
  | 0 => 4
  | 1 => 3
  | 2 => 0
  | 3 => 2
  | _ => 1

theorem fK_lt (k : Nat) : fK k < 5 := by unfold fK; split <;> omega

/-- Field i has been written by one of the first k rounds. -/
def done (k i : Nat) : Bool := (List.range k).any fun q => fK q == i

def rowS (od nw : Nat → ByteArray) (k i : Nat) : ByteArray := if done k i = true then nw i else od i

theorem rowS_zero (od nw : Nat → ByteArray) (i : Nat) : rowS od nw 0 i = od i := by simp [rowS, done]
theorem rowS_five (od nw : Nat → ByteArray) (i : Nat) (h : i < 5) : rowS od nw 5 i = nw i := by
  have : done 5 i = true := by
    match i, h with
    | 0, _ | 1, _ | 2, _ | 3, _ | 4, _ => decide
  simp [rowS, this]
theorem rowS_succ (od nw : Nat → ByteArray) (k i : Nat) : rowS od nw (k + 1) i = if fK k = i then nw i else rowS od nw k i := by
  unfold rowS done
  rw [List.range_succ, List.any_append]
  by_cases h : fK k = i
  · simp [h]
  · have : (fK k == i) = false := by simpa using h
    simp [h]

/-- What the law's own memory holds when k fields have been filled: the row at B, the columns at B + 1, the keys at B + 2, the new texts at B + 3. -/
structure OrgAt (w0 w : World) (H B k : Nat) (od nw : Nat → ByteArray) : Prop where
  row : ∀ i, i < 5 → w.cell? ⟨B, i, none⟩ = some (.string (rowS od nw k i))
  free : ∀ i, i < 5 → w.frozen? ⟨B, i, none⟩ = false
  cols : Cols w (B + 1) B
  keys : ∀ q, q < 5 → w.cell? ⟨B + 2, q, none⟩ = some (.string (nameB (fK q)))
  vals : ∀ q, q < 5 → w.cell? ⟨B + 3, q, none⟩ = some (.string (nw (fK q)))
  size : B + 3 < w.heap.size
  below : Below H w0 w
  base : H ≤ B

theorem OrgAt.alloc {w0 w : World} {H B k : Nat} {od nw : Nat → ByteArray} (h : OrgAt w0 w H B k od nw) (o : Obj) : OrgAt w0 (w.alloc o) H B k od nw := by
  obtain ⟨h1, h2, h3, h4, h5, h6, h7, h8⟩ := h
  have hb : Below w.heap.size w (w.alloc o) := (Below.refl _ _).alloc (Nat.le_refl _) _
  refine ⟨fun i hi => ?_, fun i hi => ?_, h3.below hb (by omega), fun i hi => ?_, fun i hi => ?_, by simp; omega, h7.alloc (by have := h7.size; omega) _, h8⟩
  · rw [hb.cell (by show B < _; omega)]; exact h1 i hi
  · rw [hb.frozen (by show B < _; omega)]; exact h2 i hi
  · rw [hb.cell (by show B + 2 < _; omega)]; exact h4 i hi
  · rw [hb.cell (by show B + 3 < _; omega)]; exact h5 i hi

theorem OrgAt.drew {w0 w : World} {H B k : Nat} {od nw : Nat → ByteArray} (h : OrgAt w0 w H B k od nw) : OrgAt w0 w.drew H B k od nw := by
  obtain ⟨h1, h2, h3, h4, h5, h6, h7, h8⟩ := h
  exact ⟨h1, h2, h3, h4, h5, h6, h7.drew, h8⟩

/-- The k-th store. -/
theorem OrgAt.fill {w0 w : World} {H B k : Nat} {od nw : Nat → ByteArray} (h : OrgAt w0 w H B k od nw) : OrgAt w0 (w.setCell ⟨B, fK k, none⟩ (.string (nw (fK k)))) H B (k + 1) od nw := by
  obtain ⟨h1, h2, h3, h4, h5, h6, h7, h8⟩ := h
  have hf := fK_lt k
  refine ⟨fun i hi => ?_, fun i hi => ?_, fun j hj => ?_, fun i hi => ?_, fun i hi => ?_, by simpa using h6, h7.setCell (by exact h8) _, h8⟩
  · rw [rowS_succ]
    by_cases e : fK k = i
    · subst e; rw [if_pos rfl]; exact World.cell?_setCell_same _ _ _ (h1 _ hf)
    · rw [if_neg e, World.cell?_setCell_other _ _ _ _ (by intro e2; injection e2; omega)]; exact h1 i hi
  · rw [World.frozen?_setCell]; exact h2 i hi
  · rw [World.cell?_setCell_other _ _ _ _ (by intro e2; injection e2; omega), World.cell?_setCell_other _ _ _ _ (by intro e2; injection e2; omega)]; exact h3 j hj
  · rw [World.cell?_setCell_other _ _ _ _ (by intro e2; injection e2; omega)]; exact h4 i hi
  · rw [World.cell?_setCell_other _ _ _ _ (by intro e2; injection e2; omega)]; exact h5 i hi

theorem name_beq (k j : Nat) (hk : k < 5) (hj : j < 5) : ((nameB j).toList == (nameB (fK k)).toList) = decide (j = fK k) := by
  match k, hk, j, hj with
  | 0, _, 0, _ | 0, _, 1, _ | 0, _, 2, _ | 0, _, 3, _ | 0, _, 4, _
  | 1, _, 0, _ | 1, _, 1, _ | 1, _, 2, _ | 1, _, 3, _ | 1, _, 4, _
  | 2, _, 0, _ | 2, _, 1, _ | 2, _, 2, _ | 2, _, 3, _ | 2, _, 4, _
  | 3, _, 0, _ | 3, _, 1, _ | 3, _, 2, _ | 3, _, 3, _ | 3, _, 4, _
  | 4, _, 0, _ | 4, _, 1, _ | 4, _, 2, _ | 4, _, 3, _ | 4, _, 4, _ => decide +kernel

/-- What has been found when j columns have been looked at. -/
def foundAt (k j : Nat) : Int := if fK k < j then (fK k : Int) else -1
theorem foundAt_hit (k : Nat) : foundAt k (fK k) = -1 ∧ foundAt k (fK k + 1) = (fK k : Int) := by simp [foundAt]
theorem foundAt_miss {k j : Nat} (h : ¬ j = fK k) : foundAt k (j + 1) = foundAt k j := by
  unfold foundAt
  by_cases h1 : fK k < j
  · rw [if_pos h1, if_pos (by omega)]
  · rw [if_neg h1, if_neg (by omega)]
theorem foundAt_end (k : Nat) : foundAt k 5 = (fK k : Int) := by simp [foundAt, fK_lt]

def pick5 (a b c d e : ByteArray) : Nat → ByteArray
  | 0 => a
  | 1 => b
  | 2 => c
  | 3 => d
  | _ => e

theorem OrgAt.start {w0 w1 w2 : World} {H B : Nat} (o0 o1 o2 o3 o4 n0 n1 n2 n3 n4 : ByteArray) (hH : Below H w0 w1) (hB : w1.heap.size = B) (hb : H ≤ B) (T U V : TypeId)
    (h2 : Below (B + 1) (w1.alloc (.cells #[.string o0, .string o1, .string o2, .string o3, .string o4] T)) w2) (hz : w2.heap.size = B + 2) (hc : Cols w2 (B + 1) B) :
    OrgAt w0 ((w2.alloc (.cells #[.string (nameB 4), .string (nameB 3), .string (nameB 0), .string (nameB 2), .string (nameB 1)] U)).alloc (.cells #[.string n4, .string n3, .string n0, .string n2, .string n1] V)) H B 0 (pick5 o0 o1 o2 o3 o4) (pick5 n0 n1 n2 n3 n4) := by
  have b3 : Below (B + 2) w2 (w2.alloc (.cells #[.string (nameB 4), .string (nameB 3), .string (nameB 0), .string (nameB 2), .string (nameB 1)] U)) := (Below.refl _ _).alloc (by omega) _
  have b4 : Below (B + 3) (w2.alloc (.cells #[.string (nameB 4), .string (nameB 3), .string (nameB 0), .string (nameB 2), .string (nameB 1)] U)) ((w2.alloc (.cells #[.string (nameB 4), .string (nameB 3), .string (nameB 0), .string (nameB 2), .string (nameB 1)] U)).alloc (.cells #[.string n4, .string n3, .string n0, .string n2, .string n1] V)) := (Below.refl _ _).alloc (by simp; omega) _
  have b34 := b3.trans (b4.mono (show B + 2 ≤ B + 3 by omega))
  refine ⟨fun i hi => ?_, fun i hi => ?_, hc.below b34 (by omega), fun q hq => ?_, fun q hq => ?_, by simp; omega, ?_, hb⟩
  · rw [b34.cell (by show B < _; omega), h2.cell (by show B < _; omega), World.cell?_alloc_at _ _ _ _ hB.symm, rowS_zero]
    match i, hi with
    | 0, _ | 1, _ | 2, _ | 3, _ | 4, _ => rfl
  · rw [b34.frozen (by show B < _; omega), h2.frozen (by show B < _; omega)]
    rw [← hB]; simp
  · rw [b4.cell (by show B + 2 < _; omega), World.cell?_alloc_at _ _ _ _ hz.symm]
    match q, hq with
    | 0, _ | 1, _ | 2, _ | 3, _ | 4, _ => rfl
  · rw [World.cell?_alloc_at _ _ _ _ (by simp; omega)]
    match q, hq with
    | 0, _ | 1, _ | 2, _ | 3, _ | 4, _ => rfl
  · have c1 : Below H w0 (w1.alloc (.cells #[.string o0, .string o1, .string o2, .string o3, .string o4] T)) := hH.alloc (by omega) _
    exact (c1.trans (h2.mono (by omega))).trans (b34.mono (by omega))
end Go.Proofs.Qxb6604683a
