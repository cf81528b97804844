import Derived.Test.Qxb6603827aZZNumber
import Derived.Test.Qxb6603827aCopy
import Derived.Test.Qxb6603827aVal2
namespace Go.Proofs.Qxb6603827a
open Go.RowKit

theorem copy_all (a : Option Addr) (zs : List Int) (cap : Nat) (w : World) (hd : Dat w w.heap.size zs a) (hl : zs.length ≤ 1099511627776) :
    Calls Try.prog 9 #[.slice a zs.length cap] w fun e w' => ∃ a', e = .returned (.slice a' zs.length zs.length) ∧ Dat w' w'.heap.size zs a' ∧ Below w.heap.size w w' := by
  cases a with
  | none =>
    obtain rfl := hd.a_some rfl
    refine (copy_nil cap w).mono ?_
    rintro e w' ⟨rfl, rfl⟩
    exact ⟨none, rfl, hd, Below.refl _ _⟩
  | some x =>
    refine (copy_some x zs cap w hd hl).mono ?_
    rintro e w' ⟨rfl, hb, hbe⟩
    exact ⟨_, rfl, hb.whole hd.bytes, hbe⟩

set_option maxHeartbeats 400000 in
theorem jspace_any (c : Int) (w : World) : Calls Try.prog 23 #[.int .u8 c] w fun e w' => e = .returned (.bool (isSp c)) ∧ w' = w := by
  cases h1 : (c == 32)
  · cases h2 : (c == 9)
    · cases h3 : (c == 10)
      · have e : isSp c = (c == 13) := by simp [isSp, h1, h2, h3]
        rw [e]
        go_enter Try.func23, Try.ntmps23
        go_wp2
        go_ret
        exact ⟨rfl, rfl⟩
      · have e : isSp c = true := by simp [isSp, h3]
        rw [e]
        go_enter Try.func23, Try.ntmps23
        go_wp2
        go_ret
        exact ⟨rfl, rfl⟩
    · have e : isSp c = true := by simp [isSp, h2]
      rw [e]
      go_enter Try.func23, Try.ntmps23
      go_wp2
      go_ret
      exact ⟨rfl, rfl⟩
  · have e : isSp c = true := by simp [isSp, h1]
    rw [e]
    go_enter Try.func23, Try.ntmps23
    go_wp2
    go_ret
    exact ⟨rfl, rfl⟩

set_option maxHeartbeats 400000 in
theorem skip11 (zs : List Int) (a : Option Addr) (cap k B : Nat) (w : World) (hd : Dat w B zs a) (hk : k ≤ zs.length) (hl : zs.length ≤ 1099511627776) :
    Calls Try.prog 11 #[.slice a zs.length cap, .int .i64 (k : Int)] w fun e w' => e = .returned (.int .i64 (skip zs k : Int)) ∧ w' = w := by
  go_enter Try.func11, Try.ntmps11
  go_wp2
  go_loopg [5] (zs.length - k) (fun m s5 wr => ∃ j : Nat, j ≤ zs.length ∧ m = zs.length - j ∧ s5 = .int .i64 (j : Int) ∧ skip zs j = skip zs k ∧ wr = w)
  case atStart => exact ⟨k, hk, rfl, rfl, rfl, rfl⟩
  case round =>
    obtain ⟨j, hj, hm, rfl, hs, hwr⟩ := hrel
    subst hwr
    have HS : Hid (gk = zs.length - j ∧ skip zs j = skip zs k) := ⟨hm, hs⟩
    clear hm hs
    by_cases hlt : j < zs.length
    · obtain ⟨c, hc⟩ : ∃ c, zs[j]? = some c := ⟨_, List.getElem?_eq_getElem hlt⟩
      obtain ⟨b, off, rfl, hbb, hcell, hc0, hc1⟩ := hd j c hc
      have HC : Hid (zs[j]? = some c) := hc
      clear hc
      have hlt' : (j : Int) < (zs.length : Int) := by omega
      cases hsp : isSp c
      · have HSP : Hid (isSp c = false) := hsp
        go_wp2_with (go_at_call 23; refine (jspace_any _ _).mono ?_; rintro e w' ⟨rfl, rfl⟩)
        go_ret
        exact ⟨by rw [← HS.out.2, skip_no HC.out HSP.out]; rfl, rfl⟩
      · have HSP : Hid (isSp c = true) := hsp
        go_wp2_with (go_at_call 23; refine (jspace_any _ _).mono ?_; rintro e w' ⟨rfl, rfl⟩)
        go_roundg (zs.length - (j + 1))
        case measure => rw [HS.out.1]; omega
        case rel => exact ⟨j + 1, by omega, rfl, by go_num, by rw [← skip_sp HC.out HSP.out]; exact HS.out.2, rfl⟩
    · have hlt' : decide ((j : Int) < (zs.length : Int)) = false := decide_eq_false (by omega)
      go_wp2
      go_ret
      exact ⟨by rw [← HS.out.2, skip_end (by omega)]; rfl, rfl⟩
end Go.Proofs.Qxb6603827a
