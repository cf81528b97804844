import Derived.Test.Qxb6604683aApartWalk
namespace Go.Proofs.Qxb6604683a
open Go.RowKit

set_option maxHeartbeats 400000 in
theorem apart_long (a b : Option Addr) (xs ys : List ByteArray) (ca cb : Nat) (w : World) (hd : SDat w w.heap.size xs a) (hd2 : SDat w w.heap.size ys b) (hm : xs.length ≤ maxLen) (hm2 : ys.length ≤ maxLen) (hl : 65536 < xs.length ∨ 65536 < ys.length) :
    Calls Try.prog 6 #[.slice a xs.length ca, .slice b ys.length cb] w fun e w' => e = .returned (.bool true) ∧ Below w.heap.size w w' := by
  have C := bytes20 a b xs ys ca cb w _ hd hd2 hm hm2
  have HC := C
  unfold maxLen at hm hm2
  clear C hd hd2
  by_cases h1 : 65536 < xs.length
  · have h16 : decide ((65536 : Int) < (xs.length : Int)) = true := decide_eq_true (by omega)
    go_enter Try.func6, Try.ntmps6
    go_wp2_with fail
    refine HC.mono ?_
    rintro e w0 ⟨⟨b0, rfl⟩, rfl⟩
    clear HC
    cases b0
    all_goals
      go_wp2
      go_ret
      exact ⟨rfl, Below.refl _ _⟩
  · have h16 : decide ((65536 : Int) < (xs.length : Int)) = false := decide_eq_false (by omega)
    have h16' : decide ((65536 : Int) < (ys.length : Int)) = true := decide_eq_true (by omega)
    go_enter Try.func6, Try.ntmps6
    go_wp2_with fail
    refine HC.mono ?_
    rintro e w0 ⟨⟨b0, rfl⟩, rfl⟩
    clear HC
    cases b0
    all_goals
      go_wp2
      go_ret
      exact ⟨rfl, Below.refl _ _⟩

theorem apart_any (a b : Option Addr) (xs ys : List ByteArray) (ca cb : Nat) (w : World) (hd : SDat w w.heap.size xs a) (hd2 : SDat w w.heap.size ys b) (hm : xs.length ≤ maxLen) (hm2 : ys.length ≤ maxLen) :
    Calls Try.prog 6 #[.slice a xs.length ca, .slice b ys.length cb] w fun e w' => e = .returned (.bool true) ∧ Below w.heap.size w w' := by
  by_cases hl : 65536 < xs.length ∨ 65536 < ys.length
  · exact apart_long a b xs ys ca cb w hd hd2 hm hm2 hl
  · exact apart_main a b xs ys ca cb w hd hd2 (by omega) (by omega)
end Go.Proofs.Qxb6604683a
