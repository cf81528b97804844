/-
  THE PLAIN LAW: a number's decimal, read by 'number', gives it back. No Go in sight.
-/
import Derived.Test.Qxb6603827aDec
namespace Go.Proofs.Qxb6603827a

theorem pow_div {m : Int} {i : Nat} (h : m < (10 : Int) ^ (i + 1)) : m / 10 < (10 : Int) ^ i := by
  rw [Int.pow_succ] at h
  omega

/-- The loop over a decimal. -/
theorem numLoop_dec : ∀ (f : Nat) (n : Int) (tail : List Int) (i : Nat), 1 ≤ f → 0 ≤ n → n ≤ maxU → n < (10 : Int) ^ f → numLoop (dec f n ++ tail) 0 i = numLoop tail n (i + (dec f n).length) := by
  intro f
  induction f with
  | zero => intro n tail i h; omega
  | succ f ih =>
    intro n tail i _ h0 h1 h2
    have hd : isDig (48 + n % 10) = true := by simp [isDig]; omega
    by_cases h : n / 10 = 0
    · rw [dec_last h]
      have ho : ¬ (maxU - (48 + n % 10 - 48)) / 10 < 0 := by simp only [maxU] at *; omega
      simp only [List.cons_append, List.nil_append, numLoop, hd, if_true, if_neg ho]
      rw [show (0 : Int) * 10 + (48 + n % 10 - 48) = n by omega]
      simp
    · have hf : 1 ≤ f := by
        cases f with
        | zero => simp at h2; omega
        | succ f => omega
      rw [dec_more h, List.append_assoc, ih (n / 10) _ i hf (by omega) (by simp only [maxU] at *; omega) (pow_div h2)]
      have ho : ¬ (maxU - (48 + n % 10 - 48)) / 10 < n / 10 := by simp only [maxU] at *; omega
      simp only [List.cons_append, List.nil_append, numLoop, hd, if_true, if_neg ho]
      rw [show n / 10 * 10 + (48 + n % 10 - 48) = n by omega]
      simp [Nat.add_assoc]

theorem numLoop_stop {tail : List Int} (ht : ∀ c, tail[0]? = some c → isDig c = false) (n : Int) (i : Nat) : numLoop tail n i = (true, n, i) := by
  cases tail with
  | nil => rfl
  | cons c cs => simp [numLoop, ht c (by simp)]

theorem dec_pos : ∀ (f : Nat) (n : Int), 1 ≤ f → 1 ≤ (dec f n).length := by
  intro f n h
  obtain ⟨g, rfl⟩ : ∃ g, f = g + 1 := ⟨f - 1, by omega⟩
  by_cases hn : n / 10 = 0
  · rw [dec_last hn]; simp
  · rw [dec_more hn]; simp

/-- No leading zero, but where the number is 0. -/
theorem dec_head : ∀ (f : Nat) (n : Int), 1 ≤ f → 1 ≤ n → n < (10 : Int) ^ f → ∃ c cs, dec f n = c :: cs ∧ 49 ≤ c ∧ c ≤ 57 := by
  intro f
  induction f with
  | zero => intro n h; omega
  | succ f ih =>
    intro n _ h1 h2
    by_cases h : n / 10 = 0
    · rw [dec_last h]
      exact ⟨_, _, rfl, by omega, by omega⟩
    · have hf : 1 ≤ f := by
        cases f with
        | zero => simp at h2; omega
        | succ f => omega
      obtain ⟨c, cs, e, h3, h4⟩ := ih (n / 10) hf (by omega) (pow_div h2)
      rw [dec_more h, e]
      exact ⟨c, _, rfl, h3, h4⟩

theorem dec_zero (f : Nat) : dec (f + 1) 0 = [48] := by rw [dec_last (by decide)]; rfl

theorem dec_first (f : Nat) (n : Int) (hf : 1 ≤ f) (h0 : 0 ≤ n) (h2 : n < (10 : Int) ^ f) : ∃ c cs, dec f n = c :: cs ∧ 48 ≤ c ∧ c ≤ 57 ∧ (c = 48 → cs = []) := by
  by_cases h : n = 0
  · subst h
    obtain ⟨g, rfl⟩ : ∃ g, f = g + 1 := ⟨f - 1, by omega⟩
    exact ⟨48, [], dec_zero g, by omega, by omega, fun _ => rfl⟩
  · obtain ⟨c, cs, e, h3, h4⟩ := dec_head f n hf (by omega) h2
    exact ⟨c, cs, e, by omega, h4, fun h => by omega⟩

theorem lt20 {n : Int} (h : n ≤ maxU) : n < (10 : Int) ^ 20 := by unfold maxU at h; omega

/-- What is made of the loop's end behind a decimal: it does not fail. -/
theorem numEnd_dec {pre tail : List Int} {n : Int} (m : Bool) (h0 : 0 ≤ n) (h1 : n ≤ maxU) :
    numEnd (pre ++ (dec 20 n ++ tail)) m pre.length (true, n, pre.length + (dec 20 n).length) = (m, n, pre.length + (dec 20 n).length, false) := by
  obtain ⟨c, cs, e, h3, h4, h5⟩ := dec_first 20 n (by omega) h0 (lt20 h1)
  have hz : (pre ++ (dec 20 n ++ tail))[pre.length]? = some c := by rw [e]; simp
  by_cases hl : (dec 20 n).length = 1
  · rw [hl]; exact numEnd_one _ _ _ _
  · have hp := dec_pos 20 n (by omega)
    rw [numEnd_more hz m (by omega)]
    have : (c == 48) = false := by
      simp
      intro hc
      rw [e, h5 hc] at hl
      simp at hl
    rw [this]

/-- A DECIMAL READS AS ITS NUMBER. -/
theorem number_plain {tail : List Int} {n : Int} (h0 : 0 ≤ n) (h1 : n ≤ maxU) (ht : ∀ c, tail[0]? = some c → isDig c = false) :
    number (dec 20 n ++ tail) 0 = (false, n, (dec 20 n).length, false) := by
  obtain ⟨c, cs, e, h3, h4, h5⟩ := dec_first 20 n (by omega) h0 (lt20 h1)
  have hz : (dec 20 n ++ tail)[0]? = some c := by rw [e]; simp
  have hsk : skip (dec 20 n ++ tail) 0 = 0 := skip_no hz (by simp [isSp]; omega)
  have hm : numMinus (dec 20 n ++ tail) 0 = false := by simp [numMinus, hz]; omega
  have hs : numStart (dec 20 n ++ tail) 0 = 0 := by simp [numStart, hm]
  unfold number
  rw [hsk, hm, hs, List.drop_zero, numLoop_dec 20 n tail 0 (by omega) h0 h1 (lt20 h1), numLoop_stop ht]
  have := numEnd_dec (pre := []) (tail := tail) false h0 h1
  simpa using this

theorem number_minus {tail : List Int} {n : Int} (h0 : 0 ≤ n) (h1 : n ≤ maxU) (ht : ∀ c, tail[0]? = some c → isDig c = false) :
    number (45 :: (dec 20 n ++ tail)) 0 = (true, n, 1 + (dec 20 n).length, false) := by
  have hz : (45 :: (dec 20 n ++ tail))[0]? = some 45 := rfl
  have hsk : skip (45 :: (dec 20 n ++ tail)) 0 = 0 := skip_no hz (by decide)
  have hm : numMinus (45 :: (dec 20 n ++ tail)) 0 = true := by simp [numMinus]
  have hs : numStart (45 :: (dec 20 n ++ tail)) 0 = 1 := by simp [numStart, hm]
  unfold number
  rw [hsk, hm, hs]
  have hd : (45 :: (dec 20 n ++ tail)).drop 1 = dec 20 n ++ tail := rfl
  rw [hd, numLoop_dec 20 n tail 1 (by omega) h0 h1 (lt20 h1), numLoop_stop ht]
  have := numEnd_dec (pre := [45]) (tail := tail) true h0 h1
  simpa using this

end Go.Proofs.Qxb6603827a
