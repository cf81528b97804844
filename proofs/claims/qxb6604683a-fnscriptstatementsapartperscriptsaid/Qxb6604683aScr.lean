import Derived.Test.Qxb6604683aProg
import Derived.WalkKit
import Derived.WalkSpells
import Derived.WalkLawsBesides
import Derived.Deep.AppendSrc
import Derived.Deep.QuietTactic
import Derived.BigQuiet
import Derived.Deep.LoopGhost
namespace Go.Proofs.Qxb6604683a
open Go.RowKit

theorem info62 : (Try.prog.info? 62).map (fun i => (i.zero, i.size, i.bytes)) = some (some (.agg #[.string ⟨#[]⟩, .bool false]), 2, 24) := by kernel_rfl

/-- The cells of a list of statements. -/
def partCells : List ByteArray → List Value
  | [] => []
  | t :: ts => .string t :: .bool true :: partCells ts

theorem partCells_len (ts : List ByteArray) : (partCells ts).length = ts.length * 2 := by
  induction ts with
  | nil => rfl
  | cons t ts ih => simp [partCells, ih]; omega

theorem partCells_append (a b : List ByteArray) : partCells (a ++ b) = partCells a ++ partCells b := by
  induction a with
  | nil => rfl
  | cons t ts ih => simp [partCells, ih]

theorem partCells_at : ∀ (ts : List ByteArray) (i : Nat) (t : ByteArray), ts[i]? = some t → (partCells ts)[i * 2]? = some (.string t) ∧ (partCells ts)[i * 2 + 1]? = some (.bool true) := by
  intro ts
  induction ts with
  | nil => intro i t h; simp at h
  | cons x xs ih =>
    intro i t h
    cases i with
    | zero => simp at h; subst h; exact ⟨rfl, rfl⟩
    | succ i =>
      have := ih i t (by simpa using h)
      rw [show (i + 1) * 2 = i * 2 + 1 + 1 by omega]
      exact this

theorem partCells_one (ts : List ByteArray) : ∀ u ∈ partCells ts, u.oneCell' = true := by
  induction ts with
  | nil => intro u hu; simp [partCells] at hu
  | cons t ts ih =>
    intro u hu
    simp only [partCells, List.mem_cons] at hu
    rcases hu with rfl | rfl | hu
    · rfl
    · rfl
    · exact ih u hu

/-- A row of cap parts at block g that the call made, the first of them the statements ts. -/
structure PRow (w : World) (g cap : Nat) (ts : List ByteArray) : Prop where
  le : ts.length ≤ cap
  cells : ∀ (k : Nat) (u : Value), (partCells ts)[k]? = some u → w.cell? ⟨g, k, none⟩ = some u
  there : ∀ k, k < cap * 2 → (w.cell? ⟨g, k, none⟩).isSome = true
  free : ∀ k, k < cap * 2 → w.frozen? ⟨g, k, none⟩ = false
  sz : g < w.heap.size

/-- The slice value v holds the statements ts; its row's block is 'own'. -/
def Owns (w : World) (v : Value) (own : Option Nat) (ts : List ByteArray) : Prop :=
  (v = .slice none 0 0 ∧ ts = [] ∧ own = none) ∨ ∃ g cap, v = .slice (some ⟨g, 0, none⟩) ts.length cap ∧ own = some g ∧ PRow w g cap ts

theorem PRow.same {w w' : World} {g cap : Nat} {ts : List ByteArray} (h : PRow w g cap ts) (hb : w'.heap[g]? = w.heap[g]?) (hs : w.heap.size ≤ w'.heap.size) : PRow w' g cap ts := by
  obtain ⟨h1, h2, h3, h4, h5⟩ := h
  have ec : ∀ k, w'.cell? ⟨g, k, none⟩ = w.cell? ⟨g, k, none⟩ := fun k => World.cell?_of_block (w := w) hb
  have ef : ∀ k, w'.frozen? ⟨g, k, none⟩ = w.frozen? ⟨g, k, none⟩ := fun k => World.frozen?_of_block (w := w) hb
  exact ⟨h1, fun k u hu => by rw [ec]; exact h2 k u hu, fun k hk => by rw [ec]; exact h3 k hk, fun k hk => by rw [ef]; exact h4 k hk, by omega⟩

theorem Owns.same {w w' : World} {v : Value} {own : Option Nat} {ts : List ByteArray} (h : Owns w v own ts) (hb : ∀ g, own = some g → w'.heap[g]? = w.heap[g]?) (hs : w.heap.size ≤ w'.heap.size) : Owns w' v own ts := by
  rcases h with h | ⟨g, cap, h1, h2, h3⟩
  · exact Or.inl h
  · exact Or.inr ⟨g, cap, h1, h2, h3.same (hb g h2) hs⟩

theorem size_setCells'' (b : Nat) : ∀ (vs : List Value) (o : Nat) (w : World), (w.setCells b o vs).heap.size = w.heap.size
  | [], _, _ => rfl
  | v :: r, o, w => by rw [World.setCells, size_setCells'' b r]; simp

theorem heap_setCells'' (b : Nat) {k : Nat} (hk : k ≠ b) : ∀ (vs : List Value) (o : Nat) (w : World), (w.setCells b o vs).heap[k]? = w.heap[k]?
  | [], _, _ => rfl
  | v :: r, o, w => by rw [World.setCells, heap_setCells'' b hk r, Below.heap_setCell _ _ _ _ (by exact hk)]

theorem grown_setCells (b : Nat) : ∀ (vs : List Value) (o : Nat) (w : World), (w.setCells b o vs).os = w.os ∧ (w.setCells b o vs).tape = w.tape ∧ (w.setCells b o vs).output = w.output
  | [], _, _ => ⟨rfl, rfl, rfl⟩
  | v :: r, o, w => by rw [World.setCells]; exact grown_setCells b r (o + 1) _

theorem PRow.room {w : World} {g cap : Nat} {ts : List ByteArray} (h : PRow w g cap ts) (t : ByteArray) (hf : ts.length + 1 ≤ cap) : PRow (w.setCells g (ts.length * 2) (partCells [t])) g cap (ts ++ [t]) := by
  obtain ⟨h1, h2, h3, h4, h5⟩ := h
  have hl := partCells_len ts
  have hl1 : (partCells [t]).length = 2 := rfl
  have hin := World.cell?_setCells_in g (partCells [t]) (ts.length * 2) w (fun j hj => h3 _ (by omega))
  refine ⟨by simpa using hf, fun k u hu => ?_, fun k hk => ?_, fun k hk => ?_, by rw [size_setCells'']; exact h5⟩
  · rw [partCells_append] at hu
    by_cases hk : k < ts.length * 2
    · rw [World.cell?_setCells_out _ _ _ _ _ (fun _ _ => Or.inl hk)]
      rw [List.getElem?_append_left (by omega)] at hu
      exact h2 k u hu
    · rw [List.getElem?_append_right (by omega)] at hu
      obtain ⟨hj, hu'⟩ := List.getElem?_eq_some_iff.1 hu
      have := hin (k - (partCells ts).length) hj
      rw [show ts.length * 2 + (k - (partCells ts).length) = k by omega] at this
      rw [this, hu']
  · by_cases hk' : k < ts.length * 2 ∨ ts.length * 2 + 2 ≤ k
    · rw [World.cell?_setCells_out _ _ _ _ _ (fun _ _ => by rw [hl1]; exact hk')]
      exact h3 k hk
    · have := hin (k - ts.length * 2) (by omega)
      rw [show ts.length * 2 + (k - ts.length * 2) = k by omega] at this
      rw [this]; rfl
  · rw [World.frozen?_setCells]; exact h4 k hk

theorem PRow.new (w : World) (ts : List ByteArray) (z : Array Value) (hz : z.size = 2) (c : Nat) (hc : ts.length ≤ c) (T : TypeId) :
    PRow (w.alloc (.cells ((partCells ts).toArray ++ Builtin.zeroCells z (c - ts.length)) T)) w.heap.size c ts := by
  have hl := partCells_len ts
  have hsz : ((partCells ts).toArray ++ Builtin.zeroCells z (c - ts.length)).size = c * 2 := by
    rw [Array.size_append, size_zeroCells, hz, List.size_toArray, hl, ← Nat.add_mul]
    congr 1; omega
  refine ⟨hc, fun k u hu => ?_, fun k hk => ?_, fun k hk => by simp, by simp⟩
  · rw [World.cell?_alloc_at _ _ _ _ rfl]
    have hk : k < (partCells ts).length := (List.getElem?_eq_some_iff.1 hu).1
    rw [Array.getElem?_append_left (by simpa using hk)]
    simpa using hu
  · rw [World.cell?_alloc_at _ _ _ _ rfl, Array.getElem?_eq_getElem (by rw [hsz]; exact hk)]
    rfl

/-- 'append' of one statement onto such a slice. -/
theorem wpList_append_part (w : World) {ops : Array Oper} {rest : List Oper} {o : Oper} {a : Act} {Q : Exit → Act → World → Prop}
    (hg : o.guard = none) (s x : Operand) (hop : o.op = Op.call { callee := Callee.builtin Builtin.append, args := #[s, x], argTypes := #[54, 54] })
    (v : Value) (own : Option Nat) (ts : List ByteArray) (t : ByteArray) (hs : a.eval s = v) (hown : Owns w v own ts) (ad : Addr) (hx : a.eval x = .slice (some ad) 1 1)
    (hnews : ∀ j u, (partCells [t])[j]? = some u → w.cell? (ad.add j) = some u) (hlen : ts.length ≤ 65536)
    (hK : ∀ v' own' w', Owns w' v' own' (ts ++ [t]) → w.grownBy w' own → (own' = own ∨ ∃ g', own' = some g' ∧ w.heap.size ≤ g') → wpList Try.prog ops Q rest (a.put o.dst v') w') :
    wpList Try.prog ops Q (o :: rest) a w := by
  refine wpList_plain hg fun K hK' => ?_
  obtain ⟨i, hi, hz0, hz1, hz2⟩ := info_parts info62
  have hsrc : Src Try.prog i.size 54 (.slice (some ad) 1 1) 1 (partCells [t]) w := by
    rw [hz1]
    exact Src.ofSlice _ Try.underlying54 ad 1 1 _ rfl hnews (partCells_one _)
  have hzs : (Value.agg #[.string ⟨#[]⟩, .bool false]).cells.size = 2 := rfl
  have grow : ∀ (base : Option Addr) (cap : Nat), cap < ts.length + 1 → (Builtin.firstCells i.size ts.length (.slice base ts.length cap)).run Try.prog w.drew = .ok (partCells ts).toArray w.drew → v = .slice base ts.length cap → o.wp Try.prog a w K Q := by
    intro base cap hc hold hv
    have hrun := run_append_grow_src (P := Try.prog) w 54 54 o.type 62 i _ Try.underlying54 hi hz0 base ts.length cap (partCells ts) hold (.slice (some ad) 1 1) 1 (partCells [t]) hsrc hc (by omega) (growslice_fits (by omega) (by rw [hz2]; omega))
    have hge := grownCap_ge w (ts.length + 1) cap 62
    have hrow := PRow.new w.drew (ts ++ [t]) _ hzs (grownCap w (ts.length + 1) cap 62) (by simpa using hge) 62
    rw [partCells_append] at hrow
    have hel : (ts ++ [t]).length = ts.length + 1 := by simp
    rw [hel] at hrow
    unfold Oper.wp
    simp only [execOp, hop]
    simp [resolve, invoke, builtin, hs, hx, hv, hrun, Result.andThen]
    refine hK' _ _ (hK _ (some w.heap.size) _ (Or.inr ⟨w.heap.size, _, by rw [hel], rfl, by simpa using hrow⟩) ⟨rfl, rfl, rfl, by simp, fun k hk _ => Below.heap_alloc w.drew _ k hk⟩ (Or.inr ⟨_, rfl, Nat.le_refl _⟩))
  rcases hown with ⟨hv, hts, hon⟩ | ⟨g, cap, hv, hon, hp⟩
  · subst hts
    exact grow none 0 (by simp) (run_firstCells_none _ _ _ _ _) hv
  · by_cases hroom : ts.length + 1 ≤ cap
    · have hrun := run_append_room_src (P := Try.prog) w 54 54 o.type 62 i Try.underlying54 hi g 0 ts.length cap (.slice (some ad) 1 1) 1 (partCells [t]) hsrc hroom
        (fun j hj => by rw [hz1]; have : j < 2 := hj; exact hp.there _ (by omega)) (fun j hj => by rw [hz1]; have : j < 2 := hj; exact hp.free _ (by omega))
      rw [hz1, Nat.zero_add] at hrun
      unfold Oper.wp
      simp only [execOp, hop]
      simp [resolve, invoke, builtin, hs, hx, hv, hrun, Result.andThen]
      have hg3 := grown_setCells g (partCells [t]) (ts.length * 2) w
      have hel : (ts ++ [t]).length = ts.length + 1 := by simp
      refine hK' _ _ (hK _ (some g) _ (Or.inr ⟨g, cap, by rw [hel], rfl, hp.room t hroom⟩) ⟨hg3.1, hg3.2.1, hg3.2.2, by rw [size_setCells'']; exact Nat.le_refl _, fun k _ hk => ?_⟩ (Or.inl hon.symm))
      exact heap_setCells'' g (fun e => hk (by rw [hon, e])) _ _ _
    · refine grow (some ⟨g, 0, none⟩) cap (by omega) ?_ hv
      exact run_firstCells_some w.drew i.size ts.length ⟨g, 0, none⟩ ts.length cap (partCells ts) (by rw [hz1]; exact partCells_len ts) (fun j u hu => by rw [Addr.add_lit, Nat.zero_add]; exact hp.cells j u hu)
end Go.Proofs.Qxb6604683a
