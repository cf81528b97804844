import Derived.Test.Qxb6603827aZZBool
import Derived.Test.Qxb6603827aWord
namespace Go.Proofs.Qxb6603827a
open Go.RowKit

/-- The bools bs lie behind the address a, below block B. -/
def BDat (w : World) (B : Nat) (bs : List Bool) (a : Option Addr) : Prop :=
  ∀ k b, bs[k]? = some b → ∃ bb off, a = some ⟨bb, off, none⟩ ∧ bb < B ∧ w.cell? ⟨bb, off + k, none⟩ = some (.bool b)

theorem BDat.below {w w' : World} {B : Nat} {bs : List Bool} {a : Option Addr} (h : BDat w B bs a) (hb : Below B w w') : BDat w' B bs a := by
  intro k b hc
  obtain ⟨bb, off, e, hlt, hcell⟩ := h k b hc
  exact ⟨bb, off, e, hlt, by rw [hb.cell (by exact hlt)]; exact hcell⟩

theorem BDat.at {w : World} {B bb off : Nat} {bs : List Bool} (h : BDat w B bs (some ⟨bb, off, none⟩)) {k : Nat} {b : Bool} (hc : bs[k]? = some b) : w.cell? ⟨bb, off + k, none⟩ = some (.bool b) := by
  obtain ⟨b', o, e, _, hcell⟩ := h k b hc
  simp at e
  obtain ⟨rfl, rfl⟩ := e
  exact hcell

theorem Buf.dat {w : World} {db cap : Nat} {zs : List Int} (h : Buf w db cap zs) (hz : ∀ c ∈ zs, 0 ≤ c ∧ c ≤ 255) : Dat w w.heap.size zs (some ⟨db, 0, none⟩) := by
  intro k c hc
  have := hz c (List.mem_of_getElem? hc)
  exact ⟨db, 0, rfl, h.sz, by simpa using h.cells k c hc, this.1, this.2⟩

theorem src_one (w : World) (c : Int) (T : TypeId) : Src Try.prog 1 22 (.slice (some ⟨w.heap.size, 0, none⟩) 1 1) ([c] : List Int).length (([c] : List Int).map (Value.int .u8)) (w.alloc (.cells #[.int .u8 c] T)) :=
  Src.ofSlice _ Try.underlying22 ⟨w.heap.size, 0, none⟩ 1 1 [.int .u8 c] rfl (fun j u hj => by
    match j, hj with
    | 0, hj => simp at hj; subst hj; simp [Addr.add_lit]) (fun u hu => by simp at hu; subst hu; rfl)

set_option maxHeartbeats 400000 in
theorem bools_walk (a0 : Option Addr) (bs : List Bool) (cap : Nat) (w : World) (hd : BDat w w.heap.size bs a0) (hn : bs.length ≤ 65536) :
    Calls Try.prog 5 #[.slice a0 bs.length cap] w fun e w' => e = .returned (.bool true) ∧ Below w.heap.size w w' := by
  have hmk := make_buf (6 * bs.length + 1) (6 * (bs.length : Int) + 1) (by omega) (by omega)
  have h20 : decide ((1048576 : Int) < (bs.length : Int)) = false := by simp; omega
  have h16 : decide ((65536 : Int) < (bs.length : Int)) = false := by simp; omega
  go_enter Try.func5, Try.ntmps5
  go_wp2
  go_loopg [3, 4] bs.length (fun m v i wr => ∃ k n : Nat, k ≤ bs.length ∧ m = bs.length - k ∧ i = .int .i64 (k : Int) ∧ v = .slice (some ⟨w.heap.size, 0, none⟩) n (6 * bs.length + 1) ∧ (txTo bs k).length = n ∧ Buf wr w.heap.size (6 * bs.length + 1) (txTo bs k) ∧ Below w.heap.size w wr)
  case atStart => exact ⟨0, 0, Nat.zero_le _, rfl, rfl, rfl, rfl, Buf.made _ _, (Below.refl _ _).alloc (Nat.le_refl _) _⟩
  case round =>
    obtain ⟨k, n, hk, hm, rfl, rfl, hn', hbuf, hb⟩ := hrel
    have HS : Hid (gk = bs.length - k ∧ (txTo bs k).length = n) := ⟨hm, hn'⟩
    have hle : n ≤ 6 * k := by rw [← hn']; exact txTo_len _ _
    clear hm hn'
    by_cases hlt : k < bs.length
    · obtain ⟨b, hc⟩ : ∃ b, bs[k]? = some b := ⟨_, List.getElem?_eq_getElem hlt⟩
      obtain ⟨bb, off, rfl, hbb, hcell⟩ := hd.below hb k b hc
      have HC : Hid (bs[k]? = some b) := hc
      clear hc
      have hlt' : (k : Int) < (bs.length : Int) := by omega
      by_cases hpar : k % 2 = 0
      · have hp : ((k : Int) % 2 == 0) = true := by simp; omega
        have HP : Hid (sepOf k = 32) := by unfold Hid sepOf; rw [if_pos hpar]
        clear hpar
        go_wp2_with (first | (at_builtin; refine wpList_append_buf _ rfl (.tmp 34) (.tmp 35) 22 rfl w.heap.size (6 * bs.length + 1) _ (txTo bs k) [32] rfl HS.out.2 (hbuf.alloc _) _ rfl (src_one _ _ _) (by rw [HS.out.2]; simp; omega) ?_))
        intro w2 hb2 hbe2
        have hB2 : Below w.heap.size w w2 := (hb.alloc hb.size _).trans hbe2
        have hcell2 := (hd.below hB2).at HC.out
        go_wp2_with fail
        refine (word_any b w.heap.size (6 * bs.length + 1) ((txTo bs k).length + 1) (txTo bs k ++ [32]) w2 (by simp) hb2 (by rw [HS.out.2]; omega)).mono ?_
        rintro e w3 ⟨n3, rfl, hn3, hb3, hbe3⟩
        have HN : Hid ((txTo bs k ++ [32] ++ wordOf b).length = n3) := hn3
        clear hn3
        go_wp2
        go_roundg (bs.length - (k + 1))
        case measure => rw [HS.out.1]; omega
        case rel =>
          have e1 := txTo_succ HC.out
          rw [HP.out] at e1
          exact ⟨k + 1, n3, by omega, rfl, by go_num, rfl, by rw [e1]; exact HN.out, by rw [e1]; exact hb3, hB2.trans hbe3⟩
      · have hp : ((k : Int) % 2 == 0) = false := by simp; omega
        have HP : Hid (sepOf k = 10) := by unfold Hid sepOf; rw [if_neg hpar]
        clear hpar
        go_wp2_with (first | (at_builtin; refine wpList_append_buf _ rfl (.tmp 37) (.tmp 38) 22 rfl w.heap.size (6 * bs.length + 1) _ (txTo bs k) [10] rfl HS.out.2 (hbuf.alloc _) _ rfl (src_one _ _ _) (by rw [HS.out.2]; simp; omega) ?_))
        intro w2 hb2 hbe2
        have hB2 : Below w.heap.size w w2 := (hb.alloc hb.size _).trans hbe2
        have hcell2 := (hd.below hB2).at HC.out
        go_wp2_with fail
        refine (word_any b w.heap.size (6 * bs.length + 1) ((txTo bs k).length + 1) (txTo bs k ++ [10]) w2 (by simp) hb2 (by rw [HS.out.2]; omega)).mono ?_
        rintro e w3 ⟨n3, rfl, hn3, hb3, hbe3⟩
        have HN : Hid ((txTo bs k ++ [10] ++ wordOf b).length = n3) := hn3
        clear hn3
        go_wp2
        go_roundg (bs.length - (k + 1))
        case measure => rw [HS.out.1]; omega
        case rel =>
          have e1 := txTo_succ HC.out
          rw [HP.out] at e1
          exact ⟨k + 1, n3, by omega, rfl, by go_num, rfl, by rw [e1]; exact HN.out, by rw [e1]; exact hb3, hB2.trans hbe3⟩
    · obtain rfl : k = bs.length := by omega
      obtain ⟨T, hT⟩ : ∃ T, txTo bs bs.length = T := ⟨_, rfl⟩
      have hTn := HS.out.2
      rw [hT] at hTn hbuf
      subst hTn
      have HT : Hid (txTo bs bs.length = T) := hT
      have hz : Hid (∀ c ∈ T, 0 ≤ c ∧ c ≤ 255) := by rw [← hT]; exact txTo_bytes _ _
      clear hT HS
      obtain ⟨wo, rfl⟩ : ∃ wo : World, wo = wr := ⟨_, rfl⟩
      go_wp2
      go_loopg [5, 6, 7] bs.length (fun m at_ fl i wr => ∃ k q : Nat, k ≤ bs.length ∧ m = bs.length - k ∧ (txTo bs k).length = q ∧ i = .int .i64 (k : Int) ∧ at_ = .int .i64 (q : Int) ∧ fl = .bool false ∧ Buf wr w.heap.size (6 * bs.length + 1) T ∧ Below w.heap.size w wr)
      case atStart => exact ⟨0, 0, Nat.zero_le _, rfl, rfl, rfl, rfl, rfl, hbuf, hb⟩
      case round =>
        obtain ⟨k2, q, hk2, hm2, hq, rfl, rfl, rfl, hbuf2, hb2⟩ := hrel
        have HQ : Hid ((txTo bs k2).length = q ∧ gk = bs.length - k2) := ⟨hq, hm2⟩
        have hql : q ≤ 6 * k2 := by rw [← hq]; exact txTo_len _ _
        clear hm2 hq
        by_cases hlt2 : k2 < bs.length
        · obtain ⟨b, hc⟩ : ∃ b, bs[k2]? = some b := ⟨_, List.getElem?_eq_getElem hlt2⟩
          obtain ⟨bb, off, rfl, hbb, _⟩ := hd.below hb2 k2 b hc
          have HC2 : Hid (bs[k2]? = some b) := hc
          clear hc
          have hlt2' : (k2 : Int) < (bs.length : Int) := by omega
          cases b
          · have hwd : ∀ j c, (wordOf false)[j]? = some c → T[q + 1 + j]? = some c := fun j c hj => by have := (word_at HC2.out).2.1 j c hj; rw [HQ.out.1, HT.out] at this; exact this
            have hsk : skip T q = q + 1 := by have := (word_at HC2.out).1; rw [HQ.out.1, HT.out] at this; exact this
            have hq2 : (txTo bs (k2 + 1)).length = q + 1 + 5 := by have := (word_at HC2.out).2.2.1; rw [HQ.out.1] at this; exact this
            have hq3 : q + 1 + 5 ≤ T.length := by have := (word_at HC2.out).2.2.2; rw [hq2, HT.out] at this; exact this
            have W := zzbool_false T w.heap.size 0 (6 * bs.length + 1) q (q + 1) wr (hbuf2.dat hz.out) (by omega) (by omega) (by omega) hsk (hwd 0 _ rfl) (hwd 1 _ rfl) (hwd 2 _ rfl) (hwd 3 _ rfl) (hwd 4 _ rfl)
            have HQ2 : Hid ((txTo bs (k2 + 1)).length = q + 1 + 5) := hq2
            have HW := W
            clear hwd hsk hq2 W
            go_wp2_with fail
            refine HW.mono ?_
            rintro e w3 ⟨rfl, hbe3⟩
            have hB3 : Below w.heap.size w w3 := hb2.trans (hbe3.mono hb2.size)
            have hcell3 := (hd.below hB3).at HC2.out
            clear HW
            go_wp2
            go_roundg (bs.length - (k2 + 1))
            case measure => rw [HQ.out.2]; omega
            case rel => exact ⟨k2 + 1, q + 1 + 5, by omega, rfl, HQ2.out, by go_num, by go_num, rfl, hbuf2.below hbe3 hbuf2.sz, hB3⟩
          · have hwd : ∀ j c, (wordOf true)[j]? = some c → T[q + 1 + j]? = some c := fun j c hj => by have := (word_at HC2.out).2.1 j c hj; rw [HQ.out.1, HT.out] at this; exact this
            have hsk : skip T q = q + 1 := by have := (word_at HC2.out).1; rw [HQ.out.1, HT.out] at this; exact this
            have hq2 : (txTo bs (k2 + 1)).length = q + 1 + 4 := by have := (word_at HC2.out).2.2.1; rw [HQ.out.1] at this; exact this
            have hq3 : q + 1 + 4 ≤ T.length := by have := (word_at HC2.out).2.2.2; rw [hq2, HT.out] at this; exact this
            have W := zzbool_true T w.heap.size 0 (6 * bs.length + 1) q (q + 1) wr (hbuf2.dat hz.out) (by omega) (by omega) (by omega) hsk (hwd 0 _ rfl) (hwd 1 _ rfl) (hwd 2 _ rfl) (hwd 3 _ rfl)
            have HQ2 : Hid ((txTo bs (k2 + 1)).length = q + 1 + 4) := hq2
            have HW := W
            clear hwd hsk hq2 W
            go_wp2_with fail
            refine HW.mono ?_
            rintro e w3 ⟨rfl, hbe3⟩
            have hB3 : Below w.heap.size w w3 := hb2.trans (hbe3.mono hb2.size)
            have hcell3 := (hd.below hB3).at HC2.out
            clear HW
            go_wp2
            go_roundg (bs.length - (k2 + 1))
            case measure => rw [HQ.out.2]; omega
            case rel => exact ⟨k2 + 1, q + 1 + 4, by omega, rfl, HQ2.out, by go_num, by go_num, rfl, hbuf2.below hbe3 hbuf2.sz, hB3⟩
        · obtain rfl : k2 = bs.length := by omega
          obtain rfl : T.length = q := by rw [← HT.out]; exact HQ.out.1
          have HW := zzbool_end T w.heap.size 0 (6 * bs.length + 1) T.length wr (hbuf2.dat hz.out) rfl (by omega) (by omega)
          go_wp2_with fail
          refine HW.mono ?_
          rintro e w3 ⟨rfl, hbe3⟩
          have hB3 : Below w.heap.size w w3 := hb2.trans (hbe3.mono hb2.size)
          clear HW
          go_wp2
          go_ret
          exact ⟨rfl, hB3⟩
end Go.Proofs.Qxb6603827a
