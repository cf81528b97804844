import Derived.Test.Qxb6604683aTexts
namespace Go.Proofs.Qxb6604683a
open Go.RowKit

set_option maxHeartbeats 400000 in
theorem kept_main (a : Option Addr) (xs : List ByteArray) (cap : Nat) (w : World) (hd : SDat w w.heap.size xs a) (hm : xs.length ≤ maxLen) :
    Calls Try.prog 5 #[.slice a xs.length cap] w fun e w' => e = .returned (.bool true) ∧ Below w.heap.size w w' := by
  have hm' := hm
  unfold maxLen at hm'
  go_enter Try.func5, Try.ntmps5
  go_wp2_with fail
  refine (bytes14 a xs cap w _ hd hm).mono ?_
  rintro e w0 ⟨b0, rfl, rfl⟩
  cases b0
  · go_wp2
    go_ret
    exact ⟨rfl, Below.refl _ _⟩
  · by_cases hl : xs.length ≤ 65536
    · have h16 : decide ((65536 : Int) < (xs.length : Int)) = false := decide_eq_false (by omega)
      clear hm hm'
      go_wp2_with fail
      refine (bytes15 a xs cap w _ hd hl).mono ?_
      rintro e w0 ⟨n0, rfl, rfl⟩
      by_cases hn0 : (1048576 : Int) < n0
      · have hn0' : decide ((1048576 : Int) < n0) = true := decide_eq_true hn0
        go_wp2
        go_ret
        exact ⟨rfl, Below.refl _ _⟩
      · have hn0' : decide ((1048576 : Int) < n0) = false := decide_eq_false hn0
        go_wp2_with fail
        refine (clone16 a xs cap w hd hl).mono ?_
        rintro e w1 ⟨a1, rfl, hd1, hbe1⟩
        go_wp2_with fail
        refine (new17 w1).mono ?_
        rintro e w2 ⟨rfl, rfl⟩
        have hs1 := hbe1.size
        have hd2 := hd1.below ((Below.refl w1.heap.size w1).alloc (Nat.le_refl _) (.cells #[.slice none 0 0] 56))
        go_wp2_with fail
        go_loopg [4] xs.length (fun g s4 wr => ∃ (k : Nat) (own : Option Nat), g = xs.length - k ∧ k ≤ xs.length ∧ s4 = .int .i64 (k : Int) ∧ Scr wr w1.heap.size (w1.heap.size + 1) own (xs.take k) ∧ Below w1.heap.size w1 wr)
        case atStart => exact ⟨0, none, rfl, by omega, rfl, Scr.new _ _ (by omega) _, (Below.refl _ _).alloc (Nat.le_refl _) _⟩
        case round =>
          obtain ⟨k, own, hg, hk, rfl, hS, hb⟩ := hrel
          have HG : Hid (gk = xs.length - k) := hg
          clear hg
          have hdr := hd1.below hb
          by_cases hlt : k < xs.length
          · obtain ⟨t, ht⟩ : ∃ t, xs[k]? = some t := ⟨_, List.getElem?_eq_getElem hlt⟩
            obtain ⟨b, off, rfl, hbb, hcell⟩ := hdr k t ht
            have hlt' : (k : Int) < (xs.length : Int) := by omega
            have HT : Hid (xs[k]? = some t) := ht
            have htk : (xs.take k).length ≤ 65536 := by simp; omega
            have hlo : w1.heap.size + 1 ≤ wr.heap.size := hS.sz
            have C := stmt18 wr w1.heap.size (w1.heap.size + 1) own (xs.take k) t hS htk hlo
            have HC := C
            clear C ht htk
            go_wp2_with fail
            refine HC.mono ?_
            rintro e w3 ⟨rfl, own', hS', hF, _⟩
            have HS' : Hid (Scr w3 w1.heap.size (w1.heap.size + 1) own' (xs.take k ++ [t])) := hS'
            have HF : Hid (Below w1.heap.size w1 w3) := hb.trans (hF.below (by omega) (Nat.le_refl _) (fun g e => by have := hS.far g e; omega))
            clear HC hS' hF hS hb
            go_wp2
            go_roundg (xs.length - (k + 1))
            case measure => rw [HG.out]; omega
            case rel => exact ⟨k + 1, own', rfl, by omega, by go_num, by rw [take_snocB HT.out]; exact HS'.out, HF.out⟩
          · obtain rfl : k = xs.length := by omega
            rw [List.take_length] at hS
            go_wp2_with fail
            refine (holds19 wr w1.heap.size (w1.heap.size + 1) w1.heap.size own xs a1 xs.length hS hdr hl).mono ?_
            rintro e w4 ⟨rfl, n4, rfl⟩
            go_wp2
            go_ret
            exact ⟨rfl, hbe1.trans ((below_drewN hb _).mono hs1)⟩
    · have h16 : decide ((65536 : Int) < (xs.length : Int)) = true := decide_eq_true (by omega)
      go_wp2
      go_ret
      exact ⟨rfl, Below.refl _ _⟩
end Go.Proofs.Qxb6604683a
