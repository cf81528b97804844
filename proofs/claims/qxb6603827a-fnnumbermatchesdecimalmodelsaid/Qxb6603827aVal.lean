/-
  THE PLAIN DECIMAL MODEL: the value of a run of digits; where 'number' stops on it. No Go in sight.
-/
import Derived.Test.Qxb6603827aNum
namespace Go.Proofs.Qxb6603827a

/-- The value of digits read on from n. -/
def valFrom : Int → List Int → Int
  | n, [] => n
  | n, c :: cs => valFrom (n * 10 + (c - 48)) cs

/-- All are digits. -/
def Digs (l : List Int) : Prop := ∀ c ∈ l, 48 ≤ c ∧ c ≤ 57

theorem Digs.tail {c : Int} {cs : List Int} (h : Digs (c :: cs)) : Digs cs := fun x hx => h x (by simp [hx])
theorem Digs.head {c : Int} {cs : List Int} (h : Digs (c :: cs)) : 48 ≤ c ∧ c ≤ 57 := h c (by simp)
theorem isDig_of {c : Int} (h : 48 ≤ c ∧ c ≤ 57) : isDig c = true := by simp [isDig, h.1, h.2]
theorem Digs.take {l : List Int} (h : Digs l) (k : Nat) : Digs (l.take k) := fun x hx => h x (List.mem_of_mem_take hx)
theorem Digs.drop {l : List Int} (h : Digs l) (k : Nat) : Digs (l.drop k) := fun x hx => h x (List.mem_of_mem_drop hx)

theorem valFrom_append (l r : List Int) : ∀ n, valFrom n (l ++ r) = valFrom (valFrom n l) r := by
  induction l with
  | nil => intro n; rfl
  | cons c cs ih => intro n; exact ih _

theorem valFrom_ge : ∀ (l : List Int) (n : Int), Digs l → 0 ≤ n → n ≤ valFrom n l := by
  intro l
  induction l with
  | nil => intro n _ _; exact Int.le_refl _
  | cons c cs ih =>
    intro n hd h0
    have := hd.head
    have := ih (n * 10 + (c - 48)) hd.tail (by omega)
    simp only [valFrom]
    omega

theorem valFrom_eq : ∀ (l : List Int) (n : Int), valFrom n l = n * 10 ^ l.length + valFrom 0 l := by
  intro l
  induction l with
  | nil => intro n; simp [valFrom]
  | cons c cs ih =>
    intro n
    simp only [valFrom, List.length_cons]
    rw [ih, ih (0 * 10 + (c - 48)), Int.pow_succ]
    rw [Int.add_mul, Int.mul_assoc n 10, Int.mul_comm 10]
    simp only [Int.zero_mul, Int.zero_add]
    omega

theorem pow10_pos (k : Nat) : (1 : Int) ≤ 10 ^ k := by
  have : (0 : Int) < 10 ^ k := Int.pow_pos (by omega)
  omega

theorem valFrom_bounds : ∀ (l : List Int), Digs l → 0 ≤ valFrom 0 l ∧ valFrom 0 l < 10 ^ l.length := by
  intro l
  induction l with
  | nil => intro _; simp [valFrom]
  | cons c cs ih =>
    intro hd
    have hc := hd.head
    have hi := ih hd.tail
    simp only [valFrom, List.length_cons]
    rw [valFrom_eq cs (0 * 10 + (c - 48)), Int.pow_succ]
    have hp := pow10_pos cs.length
    simp only [Int.zero_mul, Int.zero_add]
    have h1 : 0 ≤ (c - 48) * 10 ^ cs.length := Int.mul_nonneg (by omega) (by omega)
    have h2 : (c - 48) * 10 ^ cs.length ≤ 9 * 10 ^ cs.length := Int.mul_le_mul_of_nonneg_right (by omega) (by omega)
    omega

/-- The loop goes through digits whose value a uint64 holds. -/
theorem numLoop_pass : ∀ (d tail : List Int) (n : Int) (i : Nat), Digs d → 0 ≤ n → valFrom n d ≤ maxU → numLoop (d ++ tail) n i = numLoop tail (valFrom n d) (i + d.length) := by
  intro d
  induction d with
  | nil => intro tail n i _ _ _; rfl
  | cons c cs ih =>
    intro tail n i hd h0 hv
    have hc := hd.head
    simp only [valFrom] at hv
    have hg := valFrom_ge cs (n * 10 + (c - 48)) hd.tail (by omega)
    have ho : ¬ (maxU - (c - 48)) / 10 < n := by omega
    simp only [List.cons_append, numLoop, isDig_of hc, if_true, if_neg ho, valFrom, List.length_cons]
    rw [ih tail _ (i + 1) hd.tail (by omega) hv]
    rw [Nat.add_assoc, Nat.add_comm 1]

theorem numLoop_fail {c : Int} (hc : 48 ≤ c ∧ c ≤ 57) {n : Int} (h : maxU < n * 10 + (c - 48)) (tail : List Int) (i : Nat) : numLoop (c :: tail) n i = (false, n, i) := by
  have ho : (maxU - (c - 48)) / 10 < n := by omega
  simp [numLoop, isDig_of hc, ho]

theorem numLoop_zeros : ∀ (j : Nat) (tail : List Int) (i : Nat), numLoop (List.replicate j 48 ++ tail) 0 i = numLoop tail 0 (i + j) := by
  intro j
  induction j with
  | zero => intro tail i; rfl
  | succ j ih =>
    intro tail i
    have ho : ¬ (maxU - (48 - 48)) / 10 < 0 := by unfold maxU; omega
    have hd : isDig 48 = true := by decide
    simp only [List.replicate_succ, List.cons_append, numLoop, hd, if_true, if_neg ho]
    rw [show (0 : Int) * 10 + (48 - 48) = 0 by omega, ih tail (i + 1)]
    rw [Nat.add_assoc, Nat.add_comm 1]

/-! ### Twenty digits against the greatest uint64 -/
def maxDigits : List Int := [49, 56, 52, 52, 54, 55, 52, 52, 48, 55, 51, 55, 48, 57, 53, 53, 49, 54, 49, 53]

def aboveL : List Int → List Int → Bool
  | c :: cs, m :: ms => if c = m then aboveL cs ms else decide (m < c)
  | _, _ => false

theorem aboveL_val : ∀ (d m : List Int), d.length = m.length → Digs d → Digs m → aboveL d m = decide (valFrom 0 m < valFrom 0 d) := by
  intro d
  induction d with
  | nil => intro m hl _ _; cases m with
    | nil => simp [aboveL]
    | cons => simp at hl
  | cons c cs ih =>
    intro m hl hd hm
    cases m with
    | nil => simp at hl
    | cons e es =>
      have hl' : cs.length = es.length := by simpa using hl
      have h1 := valFrom_bounds cs hd.tail
      have h2 := valFrom_bounds es hm.tail
      rw [hl'] at h1
      simp only [aboveL, valFrom, Int.zero_mul, Int.zero_add]
      rw [valFrom_eq cs, valFrom_eq es, hl']
      by_cases hce : c = e
      · subst hce
        rw [if_pos rfl, ih es hl' hd.tail hm.tail]
        rw [Bool.eq_iff_iff]
        simp
      · rw [if_neg hce]
        rw [Bool.eq_iff_iff]
        simp only [decide_eq_true_eq]
        have hp := pow10_pos es.length
        generalize (10 : Int) ^ es.length = P at *
        constructor
        · intro hlt
          have : (e - 48 + 1) * P ≤ (c - 48) * P := Int.mul_le_mul_of_nonneg_right (by omega) (by omega)
          rw [Int.add_mul] at this
          omega
        · intro hlt
          apply Classical.byContradiction
          intro hn
          have : (c - 48 + 1) * P ≤ (e - 48) * P := Int.mul_le_mul_of_nonneg_right (by omega) (by omega)
          rw [Int.add_mul] at this
          omega

theorem maxDigits_digs : Digs maxDigits := by unfold Digs maxDigits; intro c hc; simp at hc; omega
theorem maxDigits_val : valFrom 0 maxDigits = maxU := by decide

theorem above_iff {d : List Int} (hl : d.length = 20) (hd : Digs d) : aboveL d maxDigits = decide (maxU < valFrom 0 d) := by
  rw [aboveL_val d maxDigits (by rw [hl]; rfl) hd maxDigits_digs, maxDigits_val]

/-! ### The runs -/
def ndig : List Int → Nat
  | [] => 0
  | c :: cs => if isDig c = true then ndig cs + 1 else 0
def nzero : List Int → Nat
  | [] => 0
  | c :: cs => if c = 48 then nzero cs + 1 else 0

theorem nzero_le (l : List Int) : nzero l ≤ ndig l := by
  induction l with
  | nil => simp [nzero]
  | cons c cs ih =>
    simp only [nzero, ndig]
    by_cases h : c = 48
    · have : isDig c = true := by rw [h]; decide
      rw [if_pos h, if_pos this]; omega
    · rw [if_neg h]; omega

theorem ndig_le (l : List Int) : ndig l ≤ l.length := by
  induction l with
  | nil => simp [ndig]
  | cons c cs ih => simp only [ndig]; split <;> simp <;> omega

theorem take_ndig (l : List Int) : Digs (l.take (ndig l)) := by
  induction l with
  | nil => intro c hc; simp [ndig] at hc
  | cons c cs ih =>
    simp only [ndig]
    split
    · rename_i h
      simp [isDig] at h
      intro x hx
      simp only [List.take_succ_cons, List.mem_cons] at hx
      rcases hx with rfl | hx
      · exact h
      · exact ih x hx
    · intro x hx; simp at hx

theorem drop_ndig (l : List Int) : ∀ c, (l.drop (ndig l))[0]? = some c → isDig c = false := by
  induction l with
  | nil => intro c hc; simp [ndig] at hc
  | cons c cs ih =>
    intro x hx
    simp only [ndig] at hx
    split at hx
    · exact ih x (by simpa using hx)
    · rename_i h
      simp at hx
      subst hx
      simpa using h

theorem take_nzero (l : List Int) : l.take (nzero l) = List.replicate (nzero l) 48 := by
  induction l with
  | nil => simp [nzero]
  | cons c cs ih =>
    simp only [nzero]
    split
    · rename_i h
      rw [List.take_succ_cons, ih, List.replicate_succ, h]
    · simp

theorem drop_nzero (l : List Int) : ∀ c, (l.drop (nzero l))[0]? = some c → ¬ c = 48 := by
  induction l with
  | nil => intro c hc; simp [nzero] at hc
  | cons c cs ih =>
    intro x hx
    simp only [nzero] at hx
    split at hx
    · exact ih x (by simpa using hx)
    · rename_i h
      simp at hx
      subst hx
      exact h
end Go.Proofs.Qxb6603827a
