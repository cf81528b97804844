import Derived.Test.Qxb6603827aZZNumber
import Derived.Test.Qxb6603827aDecLaw
import Derived.Test.Qxb6603827aDecWalk
import Derived.Test.Qxb6603827aCopy
import Derived.Deep.CutBlock
import Derived.Deep.DeepCutAuto
namespace Go.Proofs.Qxb6603827a
open Go.RowKit

theorem src_box (w : World) (n : Nat) (hn : n = w.heap.size) (c : Int) (T : TypeId) : Src Try.prog 1 22 (.slice (some ⟨n, 0, none⟩) 1 1) ([c] : List Int).length (([c] : List Int).map (Value.int .u8)) (w.alloc (.cells #[.int .u8 c] T)) :=
  Src.ofSlice _ Try.underlying22 ⟨n, 0, none⟩ 1 1 [.int .u8 c] rfl (fun j u hj => by
    match j, hj with
    | 0, hj => simp at hj; subst hj hn; simp [Addr.add_lit]) (fun u hu => by simp at hu; subst hu; rfl)

theorem dec_byte' (n : Int) (h : 0 ≤ n) : ∀ c ∈ dec 20 n, 0 ≤ c ∧ c ≤ 255 := fun c hc => by have := dec_bytes 20 n h c hc; omega

set_option maxHeartbeats 400000 in
theorem size15 (mn : Bool) (n : Int) (a : Option Addr) (l cap : Nat) (w : World) (hl : l ≤ 1048576) : Calls Try.prog 15 #[.bool mn, .int .u64 n, .slice a l cap] w fun e w' => e = .returned (.bool true) ∧ w' = w := by
  have h20 : decide ((1048576 : Int) < (l : Int)) = false := by simp; omega
  go_enter Try.func15, Try.ntmps15
  go_wp2
  go_ret
  exact ⟨rfl, rfl⟩

def OpensNoDigit (zs : List Int) : Prop := ∀ c, zs[0]? = some c → isDig c = false

set_option maxHeartbeats 400000 in
theorem nreads_main (mn : Bool) (n : Int) (h0 : 0 ≤ n) (h1 : n ≤ 18446744073709551615) (a : Option Addr) (zs : List Int) (cap : Nat) (w : World) (hd : Dat w w.heap.size zs a) (hl : zs.length ≤ 65536) (ht : OpensNoDigit zs) :
    Calls Try.prog 4 #[.bool mn, .int .u64 n, .slice a zs.length cap] w fun e w' => e = .returned (.bool true) ∧ Below w.heap.size w w' := by
  have hmk := make_buf (21 + zs.length) (21 + (zs.length : Int)) (by omega) (by omega)
  have h20 : decide ((1048576 : Int) < (zs.length : Int)) = false := by simp; omega
  have h16 : decide ((65536 : Int) < (zs.length : Int)) = false := by simp; omega
  go_enter Try.func4, Try.ntmps4
  go_upto_region 5 with (go_at_call 15; refine (size15 _ _ _ _ _ _ (by omega)).mono ?_; rintro e w' ⟨rfl, rfl⟩)
  clear h20
  go_cut [29] (fun s29 wx => s29 = .bool false ∧ wx = w')
  case first =>
    by_cases hz : 0 < zs.length
    · obtain ⟨c, hc⟩ : ∃ c, zs[0]? = some c := ⟨_, List.getElem?_eq_getElem hz⟩
      obtain ⟨b, off, rfl, hbb, hcell, hc0, hc1⟩ := hd 0 c hc
      have hdg := ht c hc
      have hz' : (0 : Int) < (zs.length : Int) := by omega
      simp only [Nat.add_zero] at hcell
      clear hc
      go_wp2_with (go_at_call 12; refine (digit_any _ _).mono ?_; rintro e w' ⟨rfl, rfl⟩)
      go_meet
      case rel => exact ⟨rfl, rfl⟩
    · have hz' : decide ((0 : Int) < (zs.length : Int)) = false := decide_eq_false (by omega)
      go_wp2
      go_meet
      case rel => exact ⟨rfl, rfl⟩
  case rest =>
    obtain ⟨rfl, hwc⟩ := hcut
    subst hwc
    go_wp2_with fail
    refine (copy_any a zs cap _ hd (by omega)).mono ?_
    rintro e w1 ⟨a1, c1, rfl, hd1, hbe1⟩
    clear h16
    cases mn
    · have HN : Hid (number (dec 20 n ++ zs) 0 = (false, n, (dec 20 n).length, false)) := number_plain h0 (by unfold maxU; exact h1) ht
      go_wp2_with fail
      refine (dec_any n h0 h1 w1.heap.size (21 + zs.length) 0 [] _ rfl (Buf.made _ _) (by omega)).mono ?_
      rintro e w2 ⟨m2, rfl, hm2, hb2, hbe2⟩
      simp only [List.nil_append] at hm2 hb2
      have hl2 := dec_len 20 n
      have hs2 : w1.heap.size < w2.heap.size := by have := hbe2.size; simp at this; omega
      have hd2 := hd1.below (((Below.refl _ _).alloc (Nat.le_refl _) _).trans hbe2)
      have HM2 : Hid ((dec 20 n).length = m2) := hm2
      have hle2 : m2 ≤ 20 := by rw [← hm2]; exact hl2
      clear hm2 hl2
      go_wp2_with (first | (at_builtin; refine wpList_append_buf _ rfl (.tmp 45) (.tmp 46) 22 rfl w1.heap.size (21 + zs.length) m2 (dec 20 n) zs rfl HM2.out hb2 _ rfl (src_dat hd2 _ _ rfl) (by rw [HM2.out]; omega) ?_))
      intro w3 hb3 hbe3
      have hby : ∀ c ∈ dec 20 n ++ zs, 0 ≤ c ∧ c ≤ 255 := by
        intro c hc
        rcases List.mem_append.1 hc with hc | hc
        · exact dec_byte' _ h0 c hc
        · exact hd1.bytes c hc
      have HN2 : number (dec 20 n ++ zs) 0 = (false, n, m2, false) := by rw [← HM2.out]; exact HN.out
      have C := zznumber_any (dec 20 n ++ zs) (some ⟨w1.heap.size, 0, none⟩) (21 + zs.length) 0 w3 (hb3.whole hby) (by omega) (by rw [List.length_append, HM2.out]; omega) false n m2 false HN2
      rw [List.length_append] at C
      have HC := C
      clear C hby HN2
      go_wp2_with fail
      refine HC.mono ?_
      rintro e w4 ⟨rfl, hbe4⟩
      clear HC
      go_wp2
      go_ret
      refine ⟨rfl, ?_⟩
      have b1 : Below wc.heap.size wc w3 := (hbe1.alloc hbe1.size _).trans ((hbe2.trans hbe3).mono hbe1.size)
      exact b1.trans (hbe4.mono b1.size)
    · have HN : Hid (number ([45] ++ dec 20 n ++ zs) 0 = (true, n, 1 + (dec 20 n).length, false)) := number_minus h0 (by unfold maxU; exact h1) ht
      go_wp2_with (first | (at_builtin; refine wpList_append_buf _ rfl (.tmp 37) (.tmp 38) 22 rfl w1.heap.size (21 + zs.length) _ [] [45] rfl rfl ((Buf.made _ _).alloc _) _ rfl (src_box _ _ (by simp) _ _) (by simp; omega) ?_))
      intro w1b hb1 hbe1b
      have hs1 : w1.heap.size < w1b.heap.size := by have := hbe1b.size; simp at this; omega
      go_wp2_with fail
      refine (dec_any n h0 h1 w1.heap.size (21 + zs.length) 1 [45] w1b rfl hb1 (by omega)).mono ?_
      rintro e w2 ⟨m2, rfl, hm2, hb2, hbe2⟩
      have hl2 := dec_len 20 n
      have B2 : Below w1.heap.size w1 w2 := (((Below.refl _ _).alloc (Nat.le_refl _) _).alloc (by simp) _).trans (hbe1b.trans hbe2)
      have hd2 := hd1.below B2
      have HM2 : Hid (([45] ++ dec 20 n).length = m2) := hm2
      have hle2 : m2 ≤ 21 := by rw [← hm2]; simp; omega
      clear hm2 hl2
      go_wp2_with (first | (at_builtin; refine wpList_append_buf _ rfl (.tmp 45) (.tmp 46) 22 rfl w1.heap.size (21 + zs.length) m2 ([45] ++ dec 20 n) zs rfl HM2.out hb2 _ rfl (src_dat hd2 _ _ rfl) (by rw [HM2.out]; omega) ?_))
      intro w3 hb3 hbe3
      have hby : ∀ c ∈ [45] ++ dec 20 n ++ zs, 0 ≤ c ∧ c ≤ 255 := by
        intro c hc
        rcases List.mem_append.1 hc with hc | hc
        · rcases List.mem_append.1 hc with hc | hc
          · simp at hc; omega
          · exact dec_byte' _ h0 c hc
        · exact hd1.bytes c hc
      have HN2 : number ([45] ++ dec 20 n ++ zs) 0 = (true, n, m2, false) := by
        have e : 1 + (dec 20 n).length = m2 := by have := HM2.out; simp at this; omega
        rw [← e]; exact HN.out
      have C := zznumber_any ([45] ++ dec 20 n ++ zs) (some ⟨w1.heap.size, 0, none⟩) (21 + zs.length) 0 w3 (hb3.whole hby) (by omega) (by rw [List.length_append, HM2.out]; omega) true n m2 false HN2
      have el : ([45] ++ dec 20 n ++ zs).length = (dec 20 n).length + zs.length + 1 := by simp
      rw [el] at C
      have HC := C
      clear C hby HN2 el
      go_wp2_with fail
      refine HC.mono ?_
      rintro e w4 ⟨rfl, hbe4⟩
      clear HC
      go_wp2
      go_ret
      refine ⟨rfl, ?_⟩
      have b1 : Below wc.heap.size wc w3 := hbe1.trans ((B2.trans hbe3).mono hbe1.size)
      exact b1.trans (hbe4.mono b1.size)

set_option maxHeartbeats 400000 in
theorem nreads_digit (mn : Bool) (n : Int) (a : Option Addr) (zs : List Int) (cap : Nat) (c : Int) (w : World) (hd : Dat w w.heap.size zs a) (hl : zs.length ≤ 65536) (hc : zs[0]? = some c) (hdg : isDig c = true) :
    Calls Try.prog 4 #[.bool mn, .int .u64 n, .slice a zs.length cap] w fun e w' => e = .returned (.bool true) ∧ Below w.heap.size w w' := by
  have h16 : decide ((65536 : Int) < (zs.length : Int)) = false := by simp; omega
  have hz := (List.getElem?_eq_some_iff.1 hc).1
  obtain ⟨b, off, rfl, hbb, hcell, hc0, hc1⟩ := hd 0 c hc
  have hz' : (0 : Int) < (zs.length : Int) := by omega
  simp only [Nat.add_zero] at hcell
  clear hc
  go_enter Try.func4, Try.ntmps4
  go_wp2_with (first | (go_at_call 15; refine (size15 _ _ _ _ _ _ (by omega)).mono ?_; rintro e w' ⟨rfl, rfl⟩) | (go_at_call 12; refine (digit_any _ _).mono ?_; rintro e w' ⟨rfl, rfl⟩))
  go_ret
  exact ⟨rfl, Below.refl _ _⟩

set_option maxHeartbeats 400000 in
theorem nreads_long (mn : Bool) (n : Int) (a : Option Addr) (len cap : Nat) (w : World) (h1 : 65536 < len) (hm : len ≤ maxLen) :
    Calls Try.prog 4 #[.bool mn, .int .u64 n, .slice a len cap] w fun e w' => e = .returned (.bool true) ∧ Below w.heap.size w w' := by
  unfold maxLen at hm
  by_cases h2 : 1048576 < len
  · have h20 : decide ((1048576 : Int) < (len : Int)) = true := by simp; omega
    go_enter Try.func4, Try.ntmps4
    go_wp2
    go_ret
    exact ⟨rfl, Below.refl _ _⟩
  · have h20 : decide ((1048576 : Int) < (len : Int)) = false := by simp; omega
    have h16 : decide ((65536 : Int) < (len : Int)) = true := by simp; omega
    go_enter Try.func4, Try.ntmps4
    go_wp2
    go_ret
    exact ⟨rfl, Below.refl _ _⟩

theorem nreads_any (mn : Bool) (n : Int) (h0 : 0 ≤ n) (h1 : n ≤ 18446744073709551615) (a : Option Addr) (zs : List Int) (cap : Nat) (w : World) (hd : Dat w w.heap.size zs a) (hm : zs.length ≤ maxLen) :
    Calls Try.prog 4 #[.bool mn, .int .u64 n, .slice a zs.length cap] w fun e w' => e = .returned (.bool true) ∧ Below w.heap.size w w' := by
  by_cases hl : zs.length ≤ 65536
  · by_cases hz : OpensNoDigit zs
    · exact nreads_main mn n h0 h1 a zs cap w hd hl hz
    · have : ∃ c, zs[0]? = some c ∧ isDig c = true := by
        apply Classical.byContradiction
        intro hno
        refine hz (fun c hc => ?_)
        cases hi : isDig c with
        | false => rfl
        | true => exact absurd ⟨c, hc, hi⟩ hno
      obtain ⟨c, hc, hdg⟩ := this
      exact nreads_digit mn n a zs cap c w hd hl hc hdg
  · exact nreads_long mn n a zs.length cap w (by omega) hm
end Go.Proofs.Qxb6603827a
