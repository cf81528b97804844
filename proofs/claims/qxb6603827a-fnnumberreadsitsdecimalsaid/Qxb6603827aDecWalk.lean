import Derived.Test.Qxb6603827aBuf
import Derived.Test.Qxb6603827aDec
namespace Go.Proofs.Qxb6603827a
open Go.RowKit

/-- The array of twenty bytes at block bb, its cells from i on being suf. -/
structure Tail (w : World) (bb i : Nat) (suf : List Int) : Prop where
  len : suf.length + i = 20
  cells : ∀ (t : Nat) (c : Int), suf[t]? = some c → w.cell? ⟨bb, i + t, none⟩ = some (.int .u8 c)
  there : ∀ t, t < 20 → (w.cell? ⟨bb, t, none⟩).isSome = true
  free : ∀ t, t < 20 → w.frozen? ⟨bb, t, none⟩ = false
  sz : bb < w.heap.size

theorem Tail.step {w : World} {bb i : Nat} {suf : List Int} (h : Tail w bb i suf) (hi : 1 ≤ i) (c : Int) : Tail (w.setCell ⟨bb, i - 1, none⟩ (.int .u8 c)) bb (i - 1) (c :: suf) := by
  obtain ⟨h1, h2, h3, h4, h5⟩ := h
  obtain ⟨u, hu⟩ := Option.isSome_iff_exists.1 (h3 (i - 1) (by omega))
  refine ⟨by simp; omega, ?_, ?_, ?_, by simpa using h5⟩
  · intro t d hd
    match t, hd with
    | 0, hd =>
      simp at hd; subst hd
      exact World.cell?_setCell_same _ _ _ hu
    | t + 1, hd =>
      rw [World.cell?_setCell_other _ _ _ _ (by intro e2; injection e2; omega)]
      have := h2 t d (by simpa using hd)
      rw [show i - 1 + (t + 1) = i + t by omega]
      exact this
  · intro t ht
    by_cases e : t = i - 1
    · subst e; rw [World.cell?_setCell_same _ _ _ hu]; rfl
    · rw [World.cell?_setCell_other _ _ _ _ (by intro e2; injection e2; omega)]; exact h3 t ht
  · intro t ht; rw [World.frozen?_setCell]; exact h4 t ht

theorem Tail.new (w : World) : Tail (w.alloc (.cells #[.int .u8 0, .int .u8 0, .int .u8 0, .int .u8 0, .int .u8 0, .int .u8 0, .int .u8 0, .int .u8 0, .int .u8 0, .int .u8 0, .int .u8 0, .int .u8 0, .int .u8 0, .int .u8 0, .int .u8 0, .int .u8 0, .int .u8 0, .int .u8 0, .int .u8 0, .int .u8 0] 49)) w.heap.size 20 [] := by
  refine ⟨rfl, fun t c h => by simp at h, fun t ht => ?_, fun t ht => by simp, by simp⟩
  rw [World.cell?_alloc_at _ _ _ _ rfl]
  simp [ht]

theorem slice20 (bb i : Nat) (h1 : 1 ≤ i) (h2 : i ≤ 20) (W : World) :
    (Instr.sliceAt 49 (.pointer (some ⟨bb, 0, none⟩)) (some (.int .i64 ((i : Int) - 1))) none none).run Try.prog W = .ok (.slice (some ⟨bb, i - 1, none⟩) (20 - (i - 1)) (20 - (i - 1))) W := by
  have e1 : (Try.prog.elem 49) = 5 := by kernel_rfl
  have e2 : (Try.prog.arrayLen 49) = 20 := by kernel_rfl
  obtain ⟨inf, hi, _, hz1, _⟩ := info_parts info5
  rw [run_sliceAt_array_l (P := Try.prog) W 49 ⟨bb, 0, none⟩ (by rw [e1, e2]; exact Try.underlying49) .i64 ((i : Int) - 1) (by omega) (by rw [e2]; omega), e1, e2]
  have : ((i : Int) - 1).toNat = i - 1 := by omega
  have h20 : ¬ 20 = i - 1 := by omega
  simp [sizeOf, typeInfo, hi, hz1, slicedAt, this, h20, Addr.add_lit]

theorem pow_step {m : Int} {i : Nat} (hi : 1 ≤ i) (h : m < (10 : Int) ^ i) : m / 10 < (10 : Int) ^ (i - 1) := by
  obtain ⟨j, rfl⟩ : ∃ j, i = j + 1 := ⟨i - 1, by omega⟩
  rw [Int.pow_succ] at h
  simp only [Nat.add_sub_cancel]
  omega

theorem pow_pos_of {m : Int} {i : Nat} (h0 : 0 < m) (h : m < (10 : Int) ^ i) : 1 ≤ i := by
  cases i with
  | zero => simp at h; omega
  | succ i => omega

set_option maxRecDepth 100000 in
set_option maxHeartbeats 400000 in
theorem dec_any (n : Int) (h0 : 0 ≤ n) (h1 : n ≤ 18446744073709551615) (db cap m : Nat) (zs : List Int) (w : World) (hm : zs.length = m) (hbuf : Buf w db cap zs) (hfit : m + 20 ≤ cap) :
    Calls Try.prog 16 #[.slice (some ⟨db, 0, none⟩) m cap, .int .u64 n] w fun e w' => ∃ m', e = .returned (.slice (some ⟨db, 0, none⟩) m' cap) ∧ (zs ++ dec 20 n).length = m' ∧ Buf w' db cap (zs ++ dec 20 n) ∧ Below db w w' := by
  have HM : Hid (zs.length = m) := hm
  have HP : Hid (n < (10 : Int) ^ 20) := by unfold Hid; omega
  clear hm
  have hdb := hbuf.sz
  go_enter Try.func16, Try.ntmps16
  go_wp2
  go_loopg [1, 6] 20 (fun g s1 s6 wr => ∃ (q : Int) (i : Nat) (suf : List Int), g = i ∧ s1 = .int .u64 q ∧ s6 = .int .i64 (i : Int) ∧ 0 ≤ q ∧ q ≤ 18446744073709551615 ∧ 1 ≤ i ∧ i ≤ 20 ∧ q < (10 : Int) ^ i ∧ dec 20 n = dec i q ++ suf ∧ Tail wr w.heap.size i suf ∧ Below w.heap.size w wr)
  case atStart => exact ⟨n, 20, [], rfl, rfl, rfl, h0, h1, by omega, by omega, HP.out, by simp, Tail.new _, (Below.refl _ _).alloc (Nat.le_refl _) _⟩
  case round =>
    obtain ⟨q, i, suf, hg, rfl, rfl, hq0, hq1, hi1, hi2, hqp, hdec, htail, hbe⟩ := hrel
    have HG : Hid (gk = i ∧ q < (10 : Int) ^ i ∧ dec 20 n = dec i q ++ suf) := ⟨hg, hqp, hdec⟩
    clear hg hqp hdec
    obtain ⟨u, hu⟩ := Option.isSome_iff_exists.1 (htail.there (i - 1) (by omega))
    have hfr := htail.free (i - 1) (by omega)
    have hsl := slice20 w.heap.size i hi1 hi2
    by_cases hz : q / 10 = 0
    · have hz' : (q / 10 == 0) = true := by simpa using hz
      have HZ : Hid (q / 10 = 0) := hz
      clear hz
      have htl : Tail (wr.setCell ⟨w.heap.size, i - 1, none⟩ (.int .u8 (48 + q % 10))) w.heap.size (i - 1) ((48 + q % 10) :: suf) := htail.step hi1 _
      have hbe2 : Below w.heap.size w (wr.setCell ⟨w.heap.size, i - 1, none⟩ (.int .u8 (48 + q % 10))) := hbe.setCell (by simp) _
      have HD : Hid (dec 20 n = (48 + q % 10) :: suf) := by
        have h := HG.out.2.2
        obtain ⟨j, rfl⟩ : ∃ j, i = j + 1 := ⟨i - 1, by omega⟩
        rw [dec_last HZ.out] at h
        exact h
      have hbf := hbuf.below hbe2 hdb
      have hlen : ((48 + q % 10) :: suf).length = 20 - (i - 1) := by have := htl.len; omega
      have hfit2 : zs.length + ((48 + q % 10) :: suf).length ≤ cap := by rw [HM.out, hlen]; omega
      have hsrc : Src Try.prog 1 22 (.slice (some ⟨w.heap.size, i - 1, none⟩) (20 - (i - 1)) (20 - (i - 1))) ((48 + q % 10) :: suf).length (((48 + q % 10) :: suf).map (Value.int .u8)) (wr.setCell ⟨w.heap.size, i - 1, none⟩ (.int .u8 (48 + q % 10))) := by
        rw [hlen]
        refine Src.ofSlice _ Try.underlying22 ⟨w.heap.size, i - 1, none⟩ _ _ _ (by rw [List.length_map, hlen]; omega) ?_ (ints_oneCell _ _)
        intro j u hj
        rw [List.getElem?_map] at hj
        obtain ⟨c, hc, rfl⟩ := Option.map_eq_some_iff.1 hj
        rw [Addr.add_lit]
        exact htl.cells j c hc
      have HS : Hid _ := hsrc
      clear hsrc hlen htl htail hbe
      go_wp2_with (at_builtin; refine wpList_append_buf _ rfl _ _ 22 rfl db cap _ zs ((48 + q % 10) :: suf) rfl HM.out hbf _ rfl HS.out hfit2 ?_)
      intro w' hb' hbw
      go_wp2
      go_ret
      rw [HD.out]
      exact ⟨_, rfl, by simp, hb', (hbe2.mono (by omega)).trans hbw⟩
    · have hz' : (q / 10 == 0) = false := by simpa using hz
      have HZ : Hid (¬ q / 10 = 0) := hz
      clear hz
      go_wp2
      go_roundg (i - 1)
      case measure => rw [HG.out.1]; omega
      case rel =>
        have hp := pow_step hi1 HG.out.2.1
        have hi3 : 1 ≤ i - 1 := pow_pos_of (by have := HZ.out; omega) hp
        refine ⟨q / 10, i - 1, (48 + q % 10) :: suf, rfl, rfl, by go_num, by omega, by omega, hi3, by omega, hp, ?_, htail.step hi1 _, hbe.setCell (by simp) _⟩
        have h := HG.out.2.2
        obtain ⟨j, rfl⟩ : ∃ j, i = j + 1 := ⟨i - 1, by omega⟩
        rw [dec_more HZ.out] at h
        rw [h]
        simp
end Go.Proofs.Qxb6603827a
