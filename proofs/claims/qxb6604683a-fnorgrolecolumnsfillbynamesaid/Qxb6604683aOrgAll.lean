import Derived.Test.Qxb6604683aOrg
namespace Go.Proofs.Qxb6604683a
open Go.RowKit

set_option maxRecDepth 100000 in
set_option maxHeartbeats 400000 in
theorem org_no (s0 s1 s2 s3 s4 s5 s6 s7 s8 s9 : ByteArray) (w : World) (h : 1048576 < s0.size + s1.size + s2.size + s3.size + s4.size + s5.size + s6.size + s7.size + s8.size + s9.size)
    (h0 : s0.size ≤ maxLen) (h1 : s1.size ≤ maxLen) (h2 : s2.size ≤ maxLen) (h3 : s3.size ≤ maxLen) (h4 : s4.size ≤ maxLen) (h5 : s5.size ≤ maxLen) (h6 : s6.size ≤ maxLen) (h7 : s7.size ≤ maxLen) (h8 : s8.size ≤ maxLen) (h9 : s9.size ≤ maxLen) :
    Calls Try.prog 4 #[.string s0, .string s1, .string s2, .string s3, .string s4, .string s5, .string s6, .string s7, .string s8, .string s9] w fun e w' => e = .returned (.bool true) ∧ Below w.heap.size w w' := by
  have C := size10_no s0 s1 s2 s3 s4 s5 s6 s7 s8 s9 w h h0 h1 h2 h3 h4 h5 h6 h7 h8 h9
  have HC := C
  clear C h h0 h1 h2 h3 h4 h5 h6 h7 h8 h9
  go_enter Try.func4, Try.ntmps4
  go_wp2_with fail
  refine HC.mono ?_
  rintro e w' ⟨rfl, rfl⟩
  clear HC
  go_wp2
  go_ret
  exact ⟨rfl, Below.refl _ _⟩

theorem org_any (s0 s1 s2 s3 s4 s5 s6 s7 s8 s9 : ByteArray) (w : World)
    (h0 : s0.size ≤ maxLen) (h1 : s1.size ≤ maxLen) (h2 : s2.size ≤ maxLen) (h3 : s3.size ≤ maxLen) (h4 : s4.size ≤ maxLen) (h5 : s5.size ≤ maxLen) (h6 : s6.size ≤ maxLen) (h7 : s7.size ≤ maxLen) (h8 : s8.size ≤ maxLen) (h9 : s9.size ≤ maxLen) :
    Calls Try.prog 4 #[.string s0, .string s1, .string s2, .string s3, .string s4, .string s5, .string s6, .string s7, .string s8, .string s9] w fun e w' => e = .returned (.bool true) ∧ Below w.heap.size w w' := by
  by_cases h : s0.size + s1.size + s2.size + s3.size + s4.size + s5.size + s6.size + s7.size + s8.size + s9.size ≤ 1048576
  · exact org_main s0 s1 s2 s3 s4 s5 s6 s7 s8 s9 w h
  · exact org_no s0 s1 s2 s3 s4 s5 s6 s7 s8 s9 w (by omega) h0 h1 h2 h3 h4 h5 h6 h7 h8 h9
end Go.Proofs.Qxb6604683a
