/-
  THE PLAIN DECIMAL of a number, most significant digit first (fuel: the most digits). No Go in sight.
-/
import Derived.Test.Qxb6603827aNum
namespace Go.Proofs.Qxb6603827a

def dec : Nat → Int → List Int
  | 0, _ => []
  | f + 1, n => (if n / 10 = 0 then [] else dec f (n / 10)) ++ [48 + n % 10]

theorem dec_last {f : Nat} {n : Int} (h : n / 10 = 0) : dec (f + 1) n = [48 + n % 10] := by simp [dec, h]
theorem dec_more {f : Nat} {n : Int} (h : ¬ n / 10 = 0) : dec (f + 1) n = dec f (n / 10) ++ [48 + n % 10] := by simp [dec, h]

theorem dec_len : ∀ (f : Nat) (n : Int), (dec f n).length ≤ f := by
  intro f
  induction f with
  | zero => intro n; simp [dec]
  | succ f ih =>
    intro n
    by_cases h : n / 10 = 0
    · rw [dec_last h]; simp
    · rw [dec_more h]; have := ih (n / 10); simp; omega

theorem dec_bytes : ∀ (f : Nat) (n : Int), 0 ≤ n → ∀ c ∈ dec f n, 48 ≤ c ∧ c ≤ 57 := by
  intro f
  induction f with
  | zero => intro n _ c hc; simp [dec] at hc
  | succ f ih =>
    intro n h0 c hc
    by_cases h : n / 10 = 0
    · rw [dec_last h] at hc; simp at hc; omega
    · rw [dec_more h] at hc
      rcases List.mem_append.1 hc with hc | hc
      · exact ih _ (by omega) c hc
      · simp at hc; omega

end Go.Proofs.Qxb6603827a
