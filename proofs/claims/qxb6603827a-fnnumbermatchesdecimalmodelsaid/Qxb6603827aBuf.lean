import Derived.Test.Qxb6603827aProg
import Derived.Test.Qxb6603827aPlain
import Derived.WalkKit
import Derived.WalkSpells
import Derived.WalkLawsBesides
import Derived.Deep.AppendSrc
import Derived.Deep.QuietTactic
import Derived.BigQuiet
import Derived.Deep.LoopGhost
namespace Go.Proofs.Qxb6603827a
open Go.RowKit

/-- A row of bytes that the call made: block db, cap cells, none frozen, the first of them zs. -/
structure Buf (w : World) (db cap : Nat) (zs : List Int) : Prop where
  le : zs.length ≤ cap
  cells : ∀ (k : Nat) (c : Int), zs[k]? = some c → w.cell? ⟨db, k, none⟩ = some (.int .u8 c)
  there : ∀ k, k < cap → (w.cell? ⟨db, k, none⟩).isSome = true
  free : ∀ k, k < cap → w.frozen? ⟨db, k, none⟩ = false
  sz : db < w.heap.size

theorem Buf.below {w w' : World} {db cap B : Nat} {zs : List Int} (h : Buf w db cap zs) (hb : Below B w w') (hB : db < B) : Buf w' db cap zs := by
  obtain ⟨h1, h2, h3, h4, h5⟩ := h
  refine ⟨h1, fun k c hc => ?_, fun k hk => ?_, fun k hk => ?_, by have := hb.size; omega⟩
  · rw [hb.cell (by exact hB)]; exact h2 k c hc
  · rw [hb.cell (by exact hB)]; exact h3 k hk
  · rw [hb.frozen (by exact hB)]; exact h4 k hk

theorem Buf.alloc {w : World} {db cap : Nat} {zs : List Int} (h : Buf w db cap zs) (o : Obj) : Buf (w.alloc o) db cap zs :=
  h.below ((Below.refl w.heap.size w).alloc (Nat.le_refl _) o) h.sz

theorem size_setCells' (b : Nat) : ∀ (vs : List Value) (o : Nat) (w : World), (w.setCells b o vs).heap.size = w.heap.size
  | [], _, _ => rfl
  | v :: r, o, w => by rw [World.setCells, size_setCells' b r]; simp

theorem below_setCells {B b : Nat} (hb : B ≤ b) : ∀ (vs : List Value) (o : Nat) (w : World), Below B w (w.setCells b o vs)
  | [], _, _ => Below.refl _ _
  | v :: r, o, w => by
    rw [World.setCells]
    exact ((Below.refl B w).setCell (p := ⟨b, o, none⟩) hb v).trans (below_setCells hb r (o + 1) _)

theorem Buf.append {w : World} {db cap : Nat} {zs : List Int} (h : Buf w db cap zs) (ns : List Int) (hf : zs.length + ns.length ≤ cap) :
    Buf (w.setCells db zs.length (ns.map (Value.int .u8))) db cap (zs ++ ns) := by
  obtain ⟨h1, h2, h3, h4, h5⟩ := h
  have hin := World.cell?_setCells_in db (ns.map (Value.int .u8)) zs.length w (fun j hj => h3 _ (by simp at hj; omega))
  refine ⟨by simpa using hf, fun k c hc => ?_, fun k hk => ?_, fun k hk => ?_, by rw [size_setCells']; exact h5⟩
  · by_cases hk : k < zs.length
    · rw [World.cell?_setCells_out _ _ _ _ _ (fun _ _ => Or.inl hk)]
      rw [List.getElem?_append_left hk] at hc
      exact h2 k c hc
    · rw [List.getElem?_append_right (by omega)] at hc
      obtain ⟨hj, hc'⟩ := List.getElem?_eq_some_iff.1 hc
      have := hin (k - zs.length) (by simpa using hj)
      rw [show zs.length + (k - zs.length) = k by omega] at this
      rw [this]
      simp [hc']
  · by_cases hk' : k < zs.length ∨ zs.length + ns.length ≤ k
    · rw [World.cell?_setCells_out _ _ _ _ _ (fun _ _ => by simpa using hk')]
      exact h3 k hk
    · have := hin (k - zs.length) (by simp; omega)
      rw [show zs.length + (k - zs.length) = k by omega] at this
      rw [this]; rfl
  · rw [World.frozen?_setCells]; exact h4 k hk

theorem info5 : (Try.prog.info? 5).map (fun i => (i.zero, i.size, i.bytes)) = some (some (.int .u8 0), 1, 1) := by kernel_rfl

/-- 'append' onto such a row, within its capacity. -/
theorem wpList_append_buf (w : World) {ops : Array Oper} {rest : List Oper} {o : Oper} {a : Act} {Q : Exit → Act → World → Prop}
    (hg : o.guard = none) (s x : Operand) (tx : TypeId) (hop : o.op = Op.call { callee := Callee.builtin Builtin.append, args := #[s, x], argTypes := #[22, tx] })
    (db cap n : Nat) (zs ns : List Int) (hs : a.eval s = .slice (some ⟨db, 0, none⟩) n cap) (hn : zs.length = n) (hbuf : Buf w db cap zs) (xv : Value) (hx : a.eval x = xv) (hsrc : Src Try.prog 1 tx xv ns.length (ns.map (Value.int .u8)) w)
    (hfit : zs.length + ns.length ≤ cap)
    (hK : ∀ w', Buf w' db cap (zs ++ ns) → Below db w w' → wpList Try.prog ops Q rest (a.put o.dst (.slice (some ⟨db, 0, none⟩) (zs ++ ns).length cap)) w') :
    wpList Try.prog ops Q (o :: rest) a w := by
  refine wpList_plain hg fun K hK' => ?_
  subst hn
  obtain ⟨i, hi, hz0, hz1, hz2⟩ := info_parts info5
  have hsrc' : Src Try.prog i.size tx xv ns.length (ns.map (Value.int .u8)) w := by rw [hz1]; exact hsrc
  have hrun := run_append_room_src (P := Try.prog) w 22 tx o.type 5 i Try.underlying22 hi db 0 zs.length cap xv ns.length (ns.map (Value.int .u8)) hsrc' hfit
    (fun j hj => by rw [hz1]; simp at hj; exact hbuf.there _ (by omega)) (fun j hj => by rw [hz1]; simp at hj; exact hbuf.free _ (by omega))
  rw [hz1, Nat.zero_add, Nat.mul_one] at hrun
  unfold Oper.wp
  simp [execOp, hop, resolve, invoke, builtin, hs, hx, hrun, Result.andThen]
  have := hK' _ _ (hK _ (hbuf.append ns hfit) (below_setCells (Nat.le_refl _) _ _ _))
  rw [List.length_append] at this
  exact this

theorem Buf.made (w : World) (n : Nat) : Buf (w.alloc (.cells (madeCells #[.int .u8 0] n) 5)) w.heap.size n [] := by
  refine ⟨Nat.zero_le _, fun k c hc => by simp at hc, fun k hk => ?_, fun k hk => ?_, by simp⟩
  · rw [World.cell?_alloc_at _ _ _ _ rfl]
    simp [size_madeCells, hk]
  · simp

theorem make_buf (n : Nat) (C : Int) (hC : C = (n : Int)) (h : n ≤ 1099511627776) (w : World) :
    (Instr.makeSlice 22 (.int .i64 0) (.int .i64 C)).run Try.prog w = .ok (.slice (some ⟨w.heap.size, 0, none⟩) 0 n) (w.alloc (.cells (madeCells #[.int .u8 0] n) 5)) := by
  subst hC
  obtain ⟨i, hi, hz0, hz1, hz2⟩ := info_parts info5
  have hr := run_make (P := Try.prog) w 22 5 i (.int .u8 0) Try.underlying22 hi hz0 .i64 .i64 0 n (by omega) (by omega) (by rw [hz2]; omega) (by omega)
  rw [hz1] at hr
  simpa [Value.cells] using hr
end Go.Proofs.Qxb6603827a
