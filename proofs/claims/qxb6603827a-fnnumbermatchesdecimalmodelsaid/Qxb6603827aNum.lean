/-
  THE PLAIN FUNCTION that (*Reader).number computes, on lists of bytes. No Go in sight.
-/
import Derived.Test.Qxb6603827aPlain
namespace Go.Proofs.Qxb6603827a

def maxU : Int := 18446744073709551615
def isDig (c : Int) : Bool := decide (48 ≤ c) && decide (c ≤ 57)

/-- The loop over the digits: (it went through, the number, the place). -/
def numLoop : List Int → Int → Nat → Bool × Int × Nat
  | [], n, i => (true, n, i)
  | c :: cs, n, i => if isDig c = true then (if (maxU - (c - 48)) / 10 < n then (false, n, i) else numLoop cs (n * 10 + (c - 48)) (i + 1)) else (true, n, i)

def numMinus (zs : List Int) (p : Nat) : Bool := decide (zs[p]? = some 45)
def numStart (zs : List Int) (p : Nat) : Nat := if numMinus zs p = true then p + 1 else p

/-- What is made of the loop's end: (minus, n, the place, failed). -/
def numEnd (zs : List Int) (m : Bool) (s : Nat) (r : Bool × Int × Nat) : Bool × Int × Nat × Bool :=
  if r.1 = true then (m, r.2.1, r.2.2, (r.2.2 == s) || (decide (s + 1 < r.2.2) && decide (zs[s]? = some 48))) else (false, 0, r.2.2, true)

def number (zs : List Int) (k : Nat) : Bool × Int × Nat × Bool :=
  numEnd zs (numMinus zs (skip zs k)) (numStart zs (skip zs k)) (numLoop (zs.drop (numStart zs (skip zs k))) 0 (numStart zs (skip zs k)))

theorem numLoop_end {zs : List Int} {j : Nat} (h : zs.length ≤ j) (n : Int) : numLoop (zs.drop j) n j = (true, n, j) := by
  rw [List.drop_eq_nil_of_le h]; rfl

theorem numLoop_no {zs : List Int} {j : Nat} {c : Int} (h : zs[j]? = some c) (hc : isDig c = false) (n : Int) : numLoop (zs.drop j) n j = (true, n, j) := by
  rw [drop_cons h]; simp [numLoop, hc]

theorem numLoop_over {zs : List Int} {j : Nat} {c : Int} (h : zs[j]? = some c) (hc : isDig c = true) {n : Int} (ho : (maxU - (c - 48)) / 10 < n) : numLoop (zs.drop j) n j = (false, n, j) := by
  rw [drop_cons h]; simp [numLoop, hc, ho]

theorem numLoop_on {zs : List Int} {j : Nat} {c : Int} (h : zs[j]? = some c) (hc : isDig c = true) {n : Int} (ho : ¬ (maxU - (c - 48)) / 10 < n) : numLoop (zs.drop j) n j = numLoop (zs.drop (j + 1)) (n * 10 + (c - 48)) (j + 1) := by
  rw [drop_cons h]; simp [numLoop, hc, ho]

theorem numEnd_over (zs : List Int) (m : Bool) (s i : Nat) (n : Int) : numEnd zs m s (false, n, i) = (false, 0, i, true) := by simp [numEnd]
theorem numEnd_zero (zs : List Int) (m : Bool) (s : Nat) (n : Int) : numEnd zs m s (true, n, s) = (m, n, s, true) := by simp [numEnd]
theorem numEnd_one (zs : List Int) (m : Bool) (s : Nat) (n : Int) : numEnd zs m s (true, n, s + 1) = (m, n, s + 1, false) := by simp [numEnd]
theorem numEnd_more {zs : List Int} {s : Nat} {c : Int} (hc : zs[s]? = some c) (m : Bool) {i : Nat} (h : s + 1 < i) (n : Int) : numEnd zs m s (true, n, i) = (m, n, i, c == 48) := by
  have h0 : ¬ i = s := by omega
  have e : (c == 48) = decide (c = 48) := by rw [Bool.eq_iff_iff]; simp
  simp [numEnd, hc, h, h0, e]
theorem inj4 {a a' : Bool} {b b' : Int} {c c' : Nat} {d d' : Bool} (h : (a, b, c, d) = (a', b', c', d')) : a = a' ∧ b = b' ∧ c = c' ∧ d = d' := by
  simpa using h

theorem numStart_le {zs : List Int} {p : Nat} (h : p ≤ zs.length) : p ≤ numStart zs p ∧ numStart zs p ≤ zs.length := by
  unfold numStart
  split
  · rename_i hm
    simp [numMinus] at hm
    have := (List.getElem?_eq_some_iff.1 hm).1
    omega
  · omega

theorem numLoop_bounds : ∀ (l : List Int) (n : Int) (i : Nat), 0 ≤ n → n ≤ maxU → 0 ≤ (numLoop l n i).2.1 ∧ (numLoop l n i).2.1 ≤ maxU ∧ i ≤ (numLoop l n i).2.2 ∧ (numLoop l n i).2.2 ≤ i + l.length := by
  intro l
  induction l with
  | nil => intro n i h0 h1; simp [numLoop]; exact ⟨h0, h1⟩
  | cons c cs ih =>
    intro n i h0 h1
    unfold numLoop
    split
    · rename_i hd
      simp [isDig] at hd
      split
      · simp; exact ⟨h0, h1⟩
      · rename_i ho
        have := ih (n * 10 + (c - 48)) (i + 1) (by omega) (by simp only [maxU] at *; omega)
        simp only [List.length_cons]
        omega
    · simp; exact ⟨h0, h1⟩

end Go.Proofs.Qxb6603827a
