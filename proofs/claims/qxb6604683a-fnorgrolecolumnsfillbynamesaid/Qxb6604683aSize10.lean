import Derived.Test.Qxb6604683aProg
import Derived.WalkKit
import Derived.WalkSpells
import Derived.WalkLawsBesides
namespace Go.Proofs.Qxb6604683a
open Go.RowKit

set_option maxHeartbeats 1000000 in
theorem size10_yes (s0 s1 s2 s3 s4 s5 s6 s7 s8 s9 : ByteArray) (w : World) (h : s0.size + s1.size + s2.size + s3.size + s4.size + s5.size + s6.size + s7.size + s8.size + s9.size ≤ 1048576) :
    Calls Try.prog 10 #[.string s0, .string s1, .string s2, .string s3, .string s4, .string s5, .string s6, .string s7, .string s8, .string s9] w fun e w' => e = .returned (.bool true) ∧ w = w' := by
  go_enter Try.func10, Try.ntmps10
  go_wp2
  go_ret
  exact ⟨rfl, rfl⟩

set_option maxHeartbeats 1000000 in
theorem size10_no (s0 s1 s2 s3 s4 s5 s6 s7 s8 s9 : ByteArray) (w : World) (h : 1048576 < s0.size + s1.size + s2.size + s3.size + s4.size + s5.size + s6.size + s7.size + s8.size + s9.size)
    (h0 : s0.size ≤ maxLen) (h1 : s1.size ≤ maxLen) (h2 : s2.size ≤ maxLen) (h3 : s3.size ≤ maxLen) (h4 : s4.size ≤ maxLen) (h5 : s5.size ≤ maxLen) (h6 : s6.size ≤ maxLen) (h7 : s7.size ≤ maxLen) (h8 : s8.size ≤ maxLen) (h9 : s9.size ≤ maxLen) :
    Calls Try.prog 10 #[.string s0, .string s1, .string s2, .string s3, .string s4, .string s5, .string s6, .string s7, .string s8, .string s9] w fun e w' => e = .returned (.bool false) ∧ w = w' := by
  unfold maxLen at *
  go_enter Try.func10, Try.ntmps10
  go_wp2
  all_goals
    go_ret
    exact ⟨rfl, rfl⟩
end Go.Proofs.Qxb6604683a
