import Derived.Test.Qxb6604683aScr
namespace Go.Proofs.Qxb6604683a
open Go.RowKit

/-- The script at block sb holds the statements ts; its row's block is 'own', from lo on. -/
structure Scr (w : World) (sb lo : Nat) (own : Option Nat) (ts : List ByteArray) : Prop where
  val : ∃ v, w.cell? ⟨sb, 0, none⟩ = some v ∧ Owns w v own ts
  free : w.frozen? ⟨sb, 0, none⟩ = false
  sz : sb < w.heap.size
  far : ∀ g, own = some g → lo ≤ g
  lo : sb < lo

/-- Of the blocks that were there, sb and own alone may have turned. -/
structure Fr2 (w w' : World) (sb : Nat) (own : Option Nat) : Prop where
  os : w'.os = w.os
  tape : w'.tape = w.tape
  output : w'.output = w.output
  size : w.heap.size ≤ w'.heap.size
  block : ∀ k, k < w.heap.size → k ≠ sb → some k ≠ own → w'.heap[k]? = w.heap[k]?

theorem Fr2.below {w w' : World} {sb B : Nat} {own : Option Nat} (h : Fr2 w w' sb own) (hB : B ≤ w.heap.size) (h1 : B ≤ sb) (h2 : ∀ g, own = some g → B ≤ g) : Below B w w' :=
  ⟨h.os, h.tape, h.output, h.size, fun k hk => h.block k (by omega) (by omega) (fun e => by have := h2 k e.symm; omega)⟩

theorem Scr.new (w : World) (lo : Nat) (hlo : w.heap.size < lo) (T : TypeId) : Scr (w.alloc (.cells #[.slice none 0 0] T)) w.heap.size lo none [] := by
  refine ⟨⟨.slice none 0 0, ?_, Or.inl ⟨rfl, rfl, rfl⟩⟩, by simp, by simp, fun g hg => by simp at hg, hlo⟩
  rw [World.cell?_alloc_at _ _ _ _ rfl]; rfl

/-- A script stays as it is while its two blocks do. -/
theorem Scr.same {w w' : World} {sb lo : Nat} {own : Option Nat} {ts : List ByteArray} (h : Scr w sb lo own ts) (hb : w'.heap[sb]? = w.heap[sb]?) (hg : ∀ g, own = some g → w'.heap[g]? = w.heap[g]?) (hs : w.heap.size ≤ w'.heap.size) : Scr w' sb lo own ts := by
  obtain ⟨⟨v, h1, h2⟩, h3, h4, h5, h6⟩ := h
  refine ⟨⟨v, ?_, h2.same hg hs⟩, ?_, by omega, h5, h6⟩
  · rw [World.cell?_of_block (w := w) (a := ⟨sb, 0, none⟩) hb]; exact h1
  · rw [World.frozen?_of_block (w := w) (a := ⟨sb, 0, none⟩) hb]; exact h3

theorem Scr.own_lt {w : World} {sb lo : Nat} {own : Option Nat} {ts : List ByteArray} (h : Scr w sb lo own ts) : ∀ g, own = some g → g < w.heap.size := by
  intro g hg
  obtain ⟨⟨v, _, h2⟩, _⟩ := h
  rcases h2 with ⟨_, _, h⟩ | ⟨g', cap, _, h, hp⟩
  · rw [h] at hg; cases hg
  · rw [h] at hg; cases hg; exact hp.sz

theorem Scr.alloc {w : World} {sb lo : Nat} {own : Option Nat} {ts : List ByteArray} (h : Scr w sb lo own ts) (o : Obj) : Scr (w.alloc o) sb lo own ts :=
  h.same (Below.heap_alloc w o sb h.sz) (fun g hg => Below.heap_alloc w o g (h.own_lt g hg)) (by simp)

set_option maxHeartbeats 400000 in
theorem new17 (w : World) : Calls Try.prog 17 #[] w fun e w' => e = .returned (.pointer (some ⟨w.heap.size, 0, none⟩)) ∧ w.alloc (.cells #[.slice none 0 0] 56) = w' := by
  go_enter Try.func17, Try.ntmps17
  go_wp2
  go_ret
  exact ⟨rfl, rfl⟩

/-- The store of the grown slice into the script. -/
theorem Scr.store {w w1 : World} {sb lo : Nat} {own own' : Option Nat} {ts ts' : List ByteArray} (h : Scr w sb lo own ts) (v' : Value) (hw1 : Owns w1 v' own' ts') (hg : w.grownBy w1 own) (hor : own' = own ∨ ∃ g', own' = some g' ∧ w.heap.size ≤ g') (hlo : lo ≤ w.heap.size) :
    Scr (w1.setCell ⟨sb, 0, none⟩ v') sb lo own' ts' ∧ Fr2 w (w1.setCell ⟨sb, 0, none⟩ v') sb own ∧ w1.frozen? ⟨sb, 0, none⟩ = false ∧ ∃ u, w1.cell? ⟨sb, 0, none⟩ = some u := by
  obtain ⟨⟨v, h1, h2⟩, h3, h4, h5, h6⟩ := h
  have hne : some sb ≠ own := fun e => by have := h5 sb e.symm; omega
  have hb : w1.heap[sb]? = w.heap[sb]? := hg.block sb h4 hne
  have hc : w1.cell? ⟨sb, 0, none⟩ = some v := by rw [World.cell?_of_block (w := w) (a := ⟨sb, 0, none⟩) hb]; exact h1
  have hf : w1.frozen? ⟨sb, 0, none⟩ = false := by rw [World.frozen?_of_block (w := w) (a := ⟨sb, 0, none⟩) hb]; exact h3
  have hlo' : ∀ g, own' = some g → lo ≤ g := by
    intro g e
    rcases hor with rfl | ⟨g', e', hg'⟩
    · exact h5 g e
    · rw [e'] at e; cases e; omega
  refine ⟨⟨⟨v', World.cell?_setCell_same _ _ _ hc, hw1.same (fun g e => Below.heap_setCell _ _ _ _ (by have := hlo' g e; show g ≠ sb; omega)) (by simp)⟩, by rw [World.frozen?_setCell]; exact hf, by simp; have := hg.size; omega, hlo', h6⟩, ⟨hg.os, hg.tape, hg.output, by simp; exact hg.size, fun k hk hks hko => ?_⟩, hf, v, hc⟩
  rw [Below.heap_setCell _ _ _ _ (by exact hks)]
  exact hg.block k hk (fun e => hko e)

theorem part_new (w : World) (n : Nat) (hn : n = w.heap.size) (t : ByteArray) (T : TypeId) : ∀ j u, (partCells [t])[j]? = some u → (w.alloc (.cells #[.string t, .bool true] T)).cell? ((⟨n, 0, none⟩ : Addr).add j) = some u := by
  intro j u hu
  rw [Addr.add_lit, Nat.zero_add, World.cell?_alloc_at _ _ _ _ hn]
  match j, hu with
  | 0, hu => simpa [partCells] using hu
  | 1, hu => simpa [partCells] using hu

set_option maxHeartbeats 400000 in
theorem stmt24 (w : World) (sb lo : Nat) (own : Option Nat) (ts : List ByteArray) (t : ByteArray) (h : Scr w sb lo own ts) (hlen : ts.length ≤ 65536) (hlo : lo ≤ w.heap.size) :
    Calls Try.prog 24 #[.pointer (some ⟨sb, 0, none⟩), .string t] w fun e w' => e = .returned (.tuple #[]) ∧ ∃ own', Scr w' sb lo own' (ts ++ [t]) ∧ Fr2 w w' sb own ∧ (own' = own ∨ ∃ g', own' = some g' ∧ w.heap.size ≤ g') := by
  obtain ⟨⟨v, h1, h2⟩, h3, h4, h5, h6⟩ := id h
  have hO : Owns (w.alloc (.cells #[.string t, .bool true] 62)) v own ts := h2.same (fun g hg => Below.heap_alloc w _ g (h.own_lt g hg)) (by simp)
  have HS : Hid (Scr (w.alloc (.cells #[.string t, .bool true] 62)) sb lo own ts) := h.alloc _
  clear h2 h h5
  go_enter Try.func24, Try.ntmps24
  go_wp2_with (at_builtin; refine wpList_append_part _ rfl _ _ rfl v own ts t rfl hO ⟨w.heap.size, 0, none⟩ rfl (part_new _ _ rfl _ _) hlen ?_)
  intro v' own' w1 hown' hgrow hor
  have hst := HS.out.store v' hown' hgrow (by simpa using hor) (by simp; omega)
  obtain ⟨hs1, hs2, hf1, u, hc1⟩ := hst
  obtain ⟨g', c', hv'⟩ : ∃ g' c', v' = .slice (some ⟨g', 0, none⟩) (ts ++ [t]).length c' := by
    rcases hown' with ⟨_, h, _⟩ | ⟨g', c', h, _⟩
    · simp at h
    · exact ⟨g', c', h⟩
  have H1 : Hid (∃ own', Scr (w1.setCell ⟨sb, 0, none⟩ v') sb lo own' (ts ++ [t]) ∧ Fr2 w (w1.setCell ⟨sb, 0, none⟩ v') sb own ∧ (own' = own ∨ ∃ g', own' = some g' ∧ w.heap.size ≤ g')) := by
    refine ⟨own', hs1, ⟨hs2.os, hs2.tape, hs2.output, by have h9 := hs2.size; rw [World.size_alloc] at h9; omega, fun k hk hks hko => ?_⟩, ?_⟩
    · rw [hs2.block k (by simp; omega) hks hko]; exact Below.heap_alloc w _ k hk
    · rcases hor with h | ⟨g', h, hg'⟩
      · exact Or.inl h
      · exact Or.inr ⟨g', h, by omega⟩
  rw [hv'] at H1
  rw [hv']
  clear hs1 hs2 hown' hgrow hor hO HS hv'
  go_wp2
  go_end0
  refine ⟨rfl, ?_⟩
  have := H1.out
  simpa using this

set_option maxHeartbeats 400000 in
theorem stmt18 (w : World) (sb lo : Nat) (own : Option Nat) (ts : List ByteArray) (t : ByteArray) (h : Scr w sb lo own ts) (hlen : ts.length ≤ 65536) (hlo : lo ≤ w.heap.size) :
    Calls Try.prog 18 #[.pointer (some ⟨sb, 0, none⟩), .string t] w fun e w' => e = .returned (.tuple #[]) ∧ ∃ own', Scr w' sb lo own' (ts ++ [t]) ∧ Fr2 w w' sb own ∧ (own' = own ∨ ∃ g', own' = some g' ∧ w.heap.size ≤ g') := by
  go_enter Try.func18, Try.ntmps18
  go_wp2_with fail
  refine (stmt24 w sb lo own ts t h hlen hlo).mono ?_
  rintro e w1 ⟨rfl, h1⟩
  have H1 : Hid _ := h1
  clear h1
  go_wp2
  go_end0
  exact ⟨rfl, H1.out⟩

set_option maxHeartbeats 400000 in
theorem len25 (w : World) (sb lo : Nat) (own : Option Nat) (ts : List ByteArray) (h : Scr w sb lo own ts) (hlen : ts.length ≤ 65536) :
    Calls Try.prog 25 #[.pointer (some ⟨sb, 0, none⟩)] w fun e w' => e = .returned (.int .i64 (ts.length : Int)) ∧ w = w' := by
  obtain ⟨⟨v, h1, h2⟩, h3, h4, h5, h6⟩ := h
  rcases h2 with ⟨rfl, rfl, _⟩ | ⟨g, cap, rfl, _, _⟩
  · go_enter Try.func25, Try.ntmps25
    go_wp2
    go_ret
    exact ⟨rfl, rfl⟩
  · go_enter Try.func25, Try.ntmps25
    go_wp2
    go_ret
    exact ⟨rfl, rfl⟩

set_option maxHeartbeats 400000 in
theorem part26 (w : World) (sb lo : Nat) (own : Option Nat) (ts : List ByteArray) (i : Nat) (t : ByteArray) (h : Scr w sb lo own ts) (hlen : ts.length ≤ 65536) (ht : ts[i]? = some t) :
    Calls Try.prog 26 #[.pointer (some ⟨sb, 0, none⟩), .int .i64 (i : Int)] w fun e w' => e = .returned (.tuple #[.string t, .bool true]) ∧ ∃ n, w' = w.drewN n := by
  obtain ⟨⟨v, h1, h2⟩, h3, h4, h5, h6⟩ := h
  have hi := (List.getElem?_eq_some_iff.1 ht).1
  rcases h2 with ⟨_, rfl, _⟩ | ⟨g, cap, rfl, _, hp⟩
  · simp at hi
  · have c := partCells_at ts i t ht
    have c1 := hp.cells _ _ c.1
    have c2 := hp.cells _ _ c.2
    have hi' : (i : Int) < (ts.length : Int) := by omega
    clear c ht
    go_enter Try.func26, Try.ntmps26
    go_wp2
    go_quiet (fail)
    go_wp2
    go_ret2
    exact ⟨rfl, _, rfl⟩
end Go.Proofs.Qxb6604683a
