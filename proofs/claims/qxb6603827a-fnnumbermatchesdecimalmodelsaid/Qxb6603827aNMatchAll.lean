import Derived.Test.Qxb6603827aNMatch
namespace Go.Proofs.Qxb6603827a
open Go.RowKit

set_option maxRecDepth 100000 in
set_option maxHeartbeats 400000 in
theorem nm_long (a : Option Addr) (len cap : Nat) (x : Int) (f : Bool) (w : World) (h : 1048576 < len) (hm : len ≤ maxLen) :
    Calls Try.prog 3 #[.slice a len cap, .int .i64 x, .bool f] w fun e w' => e = .returned (.bool true) ∧ Below w.heap.size w w' := by
  unfold maxLen at hm
  have h20 : decide ((1048576 : Int) < (len : Int)) = true := by simp; omega
  go_enter Try.func3, Try.ntmps3
  go_wp2
  go_ret
  exact ⟨rfl, Below.refl _ _⟩

set_option maxRecDepth 100000 in
set_option maxHeartbeats 400000 in
theorem nm_at (a : Option Addr) (len cap : Nat) (x : Int) (f : Bool) (w : World) (h : len ≤ 1048576) (hx : x < 0 ∨ (len : Int) < x) :
    Calls Try.prog 3 #[.slice a len cap, .int .i64 x, .bool f] w fun e w' => e = .returned (.bool true) ∧ Below w.heap.size w w' := by
  have h20 : decide ((1048576 : Int) < (len : Int)) = false := by simp; omega
  by_cases hx0 : x < 0
  · have e0 : decide (x < 0) = true := by simpa using hx0
    go_enter Try.func3, Try.ntmps3
    go_wp2
    go_ret
    exact ⟨rfl, Below.refl _ _⟩
  · have e0 : decide (x < 0) = false := by simpa using hx0
    have e1 : decide ((len : Int) < x) = true := decide_eq_true (by omega)
    go_enter Try.func3, Try.ntmps3
    go_wp2
    go_ret
    exact ⟨rfl, Below.refl _ _⟩

theorem nm_any (zs : List Int) (a : Option Addr) (cap : Nat) (x : Int) (f : Bool) (w : World) (hd : Dat w w.heap.size zs a) (hm : zs.length ≤ maxLen) :
    Calls Try.prog 3 #[.slice a zs.length cap, .int .i64 x, .bool f] w fun e w' => e = .returned (.bool true) ∧ Below w.heap.size w w' := by
  by_cases hl : zs.length ≤ 1048576
  · by_cases hx : x < 0 ∨ (zs.length : Int) < x
    · exact nm_at a zs.length cap x f w hl hx
    · obtain ⟨k, rfl⟩ := Int.eq_ofNat_of_zero_le (show 0 ≤ x by omega)
      cases f with
      | true => exact nm_failed zs a cap k w hd (by omega) hl
      | false => exact nm_main zs a cap k w hd (by omega) hl
  · exact nm_long a zs.length cap x f w (by omega) hm
end Go.Proofs.Qxb6603827a
