/-
  THE PLAIN DECIMAL MODEL, on: what the loop of 'number' does on a run of digits, by the value of the run less its leading zeros. No Go in sight.
-/
import Derived.Test.Qxb6603827aVal
namespace Go.Proofs.Qxb6603827a

/-- The run less its leading zeros. -/
def sigOf (l : List Int) : List Int := (l.take (ndig l)).drop (nzero l)

theorem sig_len (l : List Int) : (sigOf l).length = ndig l - nzero l := by
  have := ndig_le l
  simp [sigOf]; omega

theorem sig_digs (l : List Int) : Digs (sigOf l) := (take_ndig l).drop _

theorem split_run (l : List Int) : l = List.replicate (nzero l) 48 ++ (sigOf l ++ l.drop (ndig l)) := by
  have h := nzero_le l
  have e1 : l.take (ndig l) = List.replicate (nzero l) 48 ++ sigOf l := by
    rw [← take_nzero l]
    have : l.take (nzero l) = (l.take (ndig l)).take (nzero l) := by rw [List.take_take, Nat.min_eq_left h]
    rw [this]
    exact (List.take_append_drop (nzero l) (l.take (ndig l))).symm
  rw [← List.append_assoc, ← e1, List.take_append_drop]

theorem numLoop_nodig {tail : List Int} (ht : ∀ c, tail[0]? = some c → isDig c = false) (n : Int) (i : Nat) : numLoop tail n i = (true, n, i) := by
  cases tail with
  | nil => rfl
  | cons c cs => simp [numLoop, ht c (by simp)]

theorem loop_pass (l : List Int) (s : Nat) (h : valFrom 0 (sigOf l) ≤ maxU) : numLoop l 0 s = (true, valFrom 0 (sigOf l), s + ndig l) := by
  have e := split_run l
  have hz := nzero_le l
  have hl := sig_len l
  have hd := drop_ndig l
  have hg := sig_digs l
  generalize sigOf l = g at *
  generalize l.drop (ndig l) = r at *
  rw [e, numLoop_zeros, numLoop_pass g r 0 _ hg (by omega) h, numLoop_nodig hd]
  rw [hl]
  rw [← e]
  rw [show s + nzero l + (ndig l - nzero l) = s + ndig l by omega]

/-- A digit at which the value passes the greatest uint64. -/
theorem loop_fail (l : List Int) (s j : Nat) (c : Int) (r : List Int) (e : (sigOf l).drop j = c :: r) (hj : valFrom 0 ((sigOf l).take j) ≤ maxU) (h : maxU < valFrom 0 ((sigOf l).take j) * 10 + (c - 48)) :
    numLoop l 0 s = (false, valFrom 0 ((sigOf l).take j), s + nzero l + j) := by
  have e0 := split_run l
  have hg := sig_digs l
  have hc : 48 ≤ c ∧ c ≤ 57 := hg c (List.mem_of_mem_drop (by rw [e]; simp))
  have hjl : j < (sigOf l).length := by
    apply Classical.byContradiction
    intro hn
    rw [List.drop_eq_nil_of_le (by omega)] at e
    cases e
  have hs : sigOf l = (sigOf l).take j ++ (c :: r) := by rw [← e, List.take_append_drop]
  have hlt : ((sigOf l).take j).length = j := by simp; omega
  have hgt := hg.take j
  generalize (sigOf l).take j = t at *
  generalize l.drop (ndig l) = q at *
  generalize nzero l = z at *
  rw [hs] at e0
  rw [e0, numLoop_zeros, List.append_assoc, numLoop_pass t _ 0 _ hgt (by omega) hj, List.cons_append, numLoop_fail hc h, hlt]

theorem pow19 : (10 : Int) ^ 19 = 10000000000000000000 := by decide
theorem pow20 : (10 : Int) ^ 20 = 100000000000000000000 := by decide

theorem pow10_le {a b : Nat} (h : a ≤ b) : (10 : Int) ^ a ≤ 10 ^ b := by
  have : (10 : Nat) ^ a ≤ 10 ^ b := Nat.pow_le_pow_right (by omega) h
  exact_mod_cast this

theorem val_short {g : List Int} (hg : Digs g) (h : g.length ≤ 19) : valFrom 0 g ≤ maxU := by
  have := (valFrom_bounds g hg).2
  have h2 := pow10_le h
  rw [pow19] at h2
  unfold maxU; omega

/-- It passes at the twentieth digit. -/
theorem loop_over20 (l : List Int) (s : Nat) (hl : 20 ≤ ndig l - nzero l) (h : maxU < valFrom 0 ((sigOf l).take 20)) : ∃ n, numLoop l 0 s = (false, n, s + nzero l + 19) := by
  have hlen := sig_len l
  have hg := sig_digs l
  obtain ⟨c, r, e⟩ : ∃ c r, (sigOf l).drop 19 = c :: r := by
    rw [List.drop_eq_getElem_cons (by omega)]; exact ⟨_, _, rfl⟩
  refine ⟨_, loop_fail l s 19 c r e (val_short (hg.take 19) (by simp; omega)) ?_⟩
  have ht : (sigOf l).take 20 = (sigOf l).take 19 ++ [c] := by
    have hc : (sigOf l)[19]? = some c := by
      have : ((sigOf l).drop 19)[0]? = some c := by rw [e]; rfl
      simpa using this
    obtain ⟨hk, rfl⟩ := List.getElem?_eq_some_iff.1 hc
    exact List.take_succ_eq_append_getElem hk
  rw [ht, valFrom_append] at h
  exact h

/-- The first twenty digits fit, and there are more. -/
theorem loop_over21 (l : List Int) (s : Nat) (hl : 20 < ndig l - nzero l) (h : valFrom 0 ((sigOf l).take 20) ≤ maxU) : ∃ n, numLoop l 0 s = (false, n, s + nzero l + 20) := by
  have hlen := sig_len l
  have hg := sig_digs l
  obtain ⟨c, r, e⟩ : ∃ c r, (sigOf l).drop 20 = c :: r := by
    rw [List.drop_eq_getElem_cons (by omega)]; exact ⟨_, _, rfl⟩
  have hc : 48 ≤ c ∧ c ≤ 57 := hg c (List.mem_of_mem_drop (by rw [e]; simp))
  refine ⟨_, loop_fail l s 20 c r e h ?_⟩
  -- the first digit is no zero: the value is at least 10^19
  obtain ⟨d, ds, ed⟩ : ∃ d ds, sigOf l = d :: ds := by
    cases hs : sigOf l with
    | nil => rw [hs] at hlen; simp at hlen; omega
    | cons d ds => exact ⟨d, ds, rfl⟩
  have hd48 : ¬ d = 48 := by
    refine drop_nzero l d ?_
    have hz := nzero_le l
    have : (sigOf l)[0]? = some d := by rw [ed]; rfl
    unfold sigOf at this
    rw [List.getElem?_drop, List.getElem?_take_of_lt (by omega)] at this
    rw [List.getElem?_drop]
    exact this
  have hdd : 48 ≤ d ∧ d ≤ 57 := hg d (by rw [ed]; simp)
  have hv : (10 : Int) ^ 19 ≤ valFrom 0 ((sigOf l).take 20) := by
    have ht : ((sigOf l).take 20) = d :: ds.take 19 := by rw [ed]; rfl
    have hl19 : (ds.take 19).length = 19 := by rw [ed] at hlen; simp at hlen; simp; omega
    have hgd : Digs (ds.take 19) := by
      have := hg.take 20
      rw [ht] at this
      exact this.tail
    rw [ht]
    simp only [valFrom, Int.zero_mul, Int.zero_add]
    rw [valFrom_eq, hl19]
    have hb := (valFrom_bounds _ hgd).1
    have : 1 * (10 : Int) ^ 19 ≤ (d - 48) * 10 ^ 19 := Int.mul_le_mul_of_nonneg_right (by omega) (by rw [pow19]; omega)
    omega
  rw [pow19] at hv
  unfold maxU
  omega

theorem ndig_end {zs : List Int} {j : Nat} (h : zs.length ≤ j) : ndig (zs.drop j) = 0 := by rw [List.drop_eq_nil_of_le h]; rfl
theorem ndig_yes {zs : List Int} {j : Nat} {c : Int} (h : zs[j]? = some c) (hc : isDig c = true) : ndig (zs.drop j) = ndig (zs.drop (j + 1)) + 1 := by rw [drop_cons h]; simp [ndig, hc]
theorem ndig_no {zs : List Int} {j : Nat} {c : Int} (h : zs[j]? = some c) (hc : isDig c = false) : ndig (zs.drop j) = 0 := by rw [drop_cons h]; simp [ndig, hc]
theorem nzero_yes {zs : List Int} {j : Nat} (h : zs[j]? = some 48) : nzero (zs.drop j) = nzero (zs.drop (j + 1)) + 1 := by rw [drop_cons h]; simp [nzero]
theorem nzero_no {zs : List Int} {j : Nat} {c : Int} (h : zs[j]? = some c) (hc : ¬ c = 48) : nzero (zs.drop j) = 0 := by rw [drop_cons h]; simp [nzero, hc]

/-- data[z:e] is the run less its leading zeros. -/
theorem sig_at (zs : List Int) (s i : Nat) : (sigOf (zs.drop s))[i]? = if i < ndig (zs.drop s) - nzero (zs.drop s) then zs[s + nzero (zs.drop s) + i]? else none := by
  have hl := sig_len (zs.drop s)
  have hz := nzero_le (zs.drop s)
  split
  · rename_i h
    unfold sigOf
    rw [List.getElem?_drop, List.getElem?_take_of_lt (by omega), List.getElem?_drop]
    congr 1; omega
  · rename_i h
    rw [List.getElem?_eq_none (by omega)]
end Go.Proofs.Qxb6603827a
