import Derived.Test.Qxb6603827aSigned
import Derived.Test.Qxb6603827aDecLaw
import Derived.Test.Qxb6603827aDecWalk
namespace Go.Proofs.Qxb6603827a
open Go.RowKit

theorem src_single (w : World) (n : Nat) (hn : n = w.heap.size) (c : Int) (T : TypeId) : Src Try.prog 1 22 (.slice (some ⟨n, 0, none⟩) 1 1) ([c] : List Int).length (([c] : List Int).map (Value.int .u8)) (w.alloc (.cells #[.int .u8 c] T)) :=
  Src.ofSlice _ Try.underlying22 ⟨n, 0, none⟩ 1 1 [.int .u8 c] rfl (fun j u hj => by
    match j, hj with
    | 0, hj => simp at hj; subst hj hn; simp [Addr.add_lit]) (fun u hu => by simp at hu; subst hu; rfl)

theorem Buf.data {w : World} {db cap : Nat} {zs : List Int} (h : Buf w db cap zs) (hz : ∀ c ∈ zs, 0 ≤ c ∧ c ≤ 255) : Dat w w.heap.size zs (some ⟨db, 0, none⟩) := by
  intro k c hc
  have := hz c (List.mem_of_getElem? hc)
  exact ⟨db, 0, rfl, h.sz, by simpa using h.cells k c hc, this.1, this.2⟩

theorem dec_byte (n : Int) (h : 0 ≤ n) : ∀ c ∈ dec 20 n, 0 ≤ c ∧ c ≤ 255 := fun c hc => by have := dec_bytes 20 n h c hc; omega

theorem div_zero {v L : Int} (hL : 1 ≤ L) (h : v / L = 0) : 0 ≤ v ∧ v < L := by
  have e := Int.mul_ediv_add_emod v L
  have a := Int.emod_nonneg v (show L ≠ 0 by omega)
  have b := Int.emod_lt_of_pos v (show 0 < L by omega)
  rw [h] at e; omega

theorem div_neg1 {v L : Int} (hL : 1 ≤ L) (h : v / L = -1) : -L ≤ v ∧ v < 0 := by
  have e := Int.mul_ediv_add_emod v L
  have a := Int.emod_nonneg v (show L ≠ 0 by omega)
  have b := Int.emod_lt_of_pos v (show 0 < L by omega)
  rw [h] at e; omega

set_option maxHeartbeats 400000 in
theorem sreads_top (v size : Int) (_h0 : -9223372036854775808 ≤ v) (_h1 : v ≤ 9223372036854775807) (hs1 : 1 ≤ size) (hs2 : size ≤ 64) (t : Int) (ht : v / 2 ^ (size.toNat - 1) = t) (ht0 : ¬ t = 0) (ht1 : ¬ t = -1) (w : World) :
    Calls Try.prog 7 #[.int .i64 v, .int .i64 size] w fun e w' => e = .returned (.bool true) ∧ Below w.heap.size w w' := by
  have hd1 : decide (size < 1) = false := by simp; omega
  have hd2 : decide (64 < size) = false := by simp; omega
  have e0 : (t != 0) = true := by simpa using ht0
  have e1 : (t != -1) = true := by simpa using ht1
  go_enter Try.func7, Try.ntmps7
  go_wp2
  go_ret
  exact ⟨rfl, Below.refl _ _⟩

set_option maxHeartbeats 400000 in
theorem sreads_pos (v size : Int) (_h0 : -9223372036854775808 ≤ v) (_h1 : v ≤ 9223372036854775807) (hs1 : 1 ≤ size) (hs2 : size ≤ 64) (ht : v / 2 ^ (size.toNat - 1) = 0) (w : World) :
    Calls Try.prog 7 #[.int .i64 v, .int .i64 size] w fun e w' => e = .returned (.bool true) ∧ Below w.heap.size w w' := by
  have hmk := make_buf 21 21 (by omega) (by omega)
  have hd1 : decide (size < 1) = false := by simp; omega
  have hd2 : decide (64 < size) = false := by simp; omega
  have hv := div_zero (limOf_bounds hs2).1 ht
  have hv0 : ¬ v < 0 := by omega
  have HN : Hid (number (dec 20 v) 0 = (false, v, (dec 20 v).length, false)) := by
    have := number_plain (tail := []) hv.1 (by unfold maxU; omega) (by simp)
    rw [List.append_nil] at this
    exact this
  have HS : Hid (signedOf (limOf size) false v = (v, false)) := by simp [Hid, signedOf, hv.2]
  go_enter Try.func7, Try.ntmps7
  go_wp2_with fail
  refine (dec_any v hv.1 (by omega) w.heap.size 21 0 [] _ rfl (Buf.made _ _) (by omega)).mono ?_
  rintro e w1 ⟨m1, rfl, hm1, hb1, hbe1⟩
  simp only [List.nil_append] at hm1 hb1
  have hl1 := dec_len 20 v
  subst hm1
  go_wp2_with fail
  refine (zzsigned_ok (dec 20 v) _ 21 0 size hs1 hs2 w1 (hb1.data (dec_byte v hv.1)) (by omega) (by omega) false v _ HN.out v false HS.out).mono ?_
  rintro e w2 ⟨rfl, hbe2⟩
  go_wp2
  go_ret
  exact ⟨rfl, (((Below.refl _ _).alloc (Nat.le_refl _) _).trans hbe1).trans (hbe2.mono (by have := hbe1.size; simp at this; omega))⟩

set_option maxHeartbeats 400000 in
theorem sreads_neg (v size : Int) (_h0 : -9223372036854775808 ≤ v) (_h1 : v ≤ 9223372036854775807) (hs1 : 1 ≤ size) (hs2 : size ≤ 64) (ht : v / 2 ^ (size.toNat - 1) = -1) (w : World) :
    Calls Try.prog 7 #[.int .i64 v, .int .i64 size] w fun e w' => e = .returned (.bool true) ∧ Below w.heap.size w w' := by
  have hmk := make_buf 21 21 (by omega) (by omega)
  have hd1 : decide (size < 1) = false := by simp; omega
  have hd2 : decide (64 < size) = false := by simp; omega
  have hv := div_neg1 (limOf_bounds hs2).1 ht
  have hlt := hv.2
  have HV : Hid (-limOf size ≤ v) := hv.1
  clear hv
  go_enter Try.func7, Try.ntmps7
  go_wp2_with (at_builtin; refine wpList_append_buf _ rfl _ _ 22 rfl w.heap.size 21 _ [] [45] rfl rfl ((Buf.made _ _).alloc _) _ rfl (src_single _ _ (by simp) _ _) (by simp) ?_)
  intro w0 hb0 hbe0
  go_wp2_with fail
  refine (dec_any (-(v + 1) + 1) (by omega) (by omega) w.heap.size 21 1 [45] w0 rfl hb0 (by omega)).mono ?_
  rintro e w1 ⟨m1, rfl, hm1, hb1, hbe1⟩
  have HN : Hid (number ([45] ++ dec 20 (-(v + 1) + 1)) 0 = (true, -(v + 1) + 1, ([45] ++ dec 20 (-(v + 1) + 1)).length, false)) := by
    have := number_minus (tail := []) (n := -(v + 1) + 1) (by omega) (by unfold maxU; omega) (by simp)
    rw [List.append_nil] at this
    have e : ([45] ++ dec 20 (-(v + 1) + 1)).length = 1 + (dec 20 (-(v + 1) + 1)).length := by simp; omega
    rw [e]
    exact this
  have HS : Hid (signedOf (limOf size) true (-(v + 1) + 1) = (v, false)) := by
    have := HV.out
    have hle : -(v + 1) + 1 ≤ limOf size := by omega
    have hneg : -(-(v + 1) + 1) = v := by omega
    simp only [Hid, signedOf, if_true, if_pos hle, hneg]
  have hl1 := dec_len 20 (-(v + 1) + 1)
  have hby : ∀ c ∈ [45] ++ dec 20 (-(v + 1) + 1), 0 ≤ c ∧ c ≤ 255 := by
    intro c hc
    rcases List.mem_append.1 hc with hc | hc
    · simp at hc; omega
    · exact dec_byte _ (by omega) c hc
  have hlz : ([45] ++ dec 20 (-(v + 1) + 1)).length ≤ 21 := by simp; omega
  obtain ⟨zs, hzs⟩ : ∃ zs, [45] ++ dec 20 (-(v + 1) + 1) = zs := ⟨_, rfl⟩
  rw [hzs] at hm1 hb1 HN hby hlz
  subst hm1
  clear hzs hl1
  have hdat := hb1.data hby
  clear hby
  go_wp2_with fail
  refine (zzsigned_ok zs _ 21 0 size hs1 hs2 w1 hdat (by omega) (by omega) true _ _ HN.out v false HS.out).mono ?_
  rintro e w2 ⟨rfl, hbe2⟩
  go_wp2
  go_ret
  refine ⟨rfl, ?_⟩
  have b0 : Below w.heap.size w w1 := (((Below.refl _ _).alloc (Nat.le_refl _) _).alloc (by simp) _).trans (hbe0.trans hbe1)
  exact b0.trans (hbe2.mono b0.size)

set_option maxHeartbeats 400000 in
theorem sreads_size (v size : Int) (h : size < 1 ∨ 64 < size) (w : World) :
    Calls Try.prog 7 #[.int .i64 v, .int .i64 size] w fun e w' => e = .returned (.bool true) ∧ Below w.heap.size w w' := by
  by_cases h1 : size < 1
  · have hd1 : decide (size < 1) = true := by simpa using h1
    go_enter Try.func7, Try.ntmps7
    go_wp2
    go_ret
    exact ⟨rfl, Below.refl _ _⟩
  · have hd1 : decide (size < 1) = false := by simpa using h1
    have hd2 : decide (64 < size) = true := by simp; omega
    go_enter Try.func7, Try.ntmps7
    go_wp2
    go_ret
    exact ⟨rfl, Below.refl _ _⟩

theorem sreads_any (v size : Int) (h0 : -9223372036854775808 ≤ v) (h1 : v ≤ 9223372036854775807) (w : World) :
    Calls Try.prog 7 #[.int .i64 v, .int .i64 size] w fun e w' => e = .returned (.bool true) ∧ Below w.heap.size w w' := by
  by_cases hs : size < 1 ∨ 64 < size
  · exact sreads_size v size hs w
  · by_cases ht0 : v / 2 ^ (size.toNat - 1) = 0
    · exact sreads_pos v size h0 h1 (by omega) (by omega) ht0 w
    · by_cases ht1 : v / 2 ^ (size.toNat - 1) = -1
      · exact sreads_neg v size h0 h1 (by omega) (by omega) ht1 w
      · exact sreads_top v size h0 h1 (by omega) (by omega) _ rfl ht0 ht1 w
end Go.Proofs.Qxb6603827a
