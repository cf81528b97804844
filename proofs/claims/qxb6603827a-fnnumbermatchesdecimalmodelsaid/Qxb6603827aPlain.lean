/-
  THE PLAIN FUNCTIONS: what the readers of package peerjson compute, as functions on lists of bytes (integers). No Go in sight.
-/
namespace Go.Proofs.Qxb6603827a

def isSp (c : Int) : Bool := c == 32 || c == 9 || c == 10 || c == 13

/-- How many JSON spaces open the list. -/
def nsp : List Int → Nat
  | [] => 0
  | c :: cs => if isSp c = true then nsp cs + 1 else 0

def skip (zs : List Int) (k : Nat) : Nat := k + nsp (zs.drop k)

theorem drop_cons {zs : List Int} {k : Nat} {c : Int} (h : zs[k]? = some c) : zs.drop k = c :: zs.drop (k + 1) := by
  obtain ⟨hk, rfl⟩ := List.getElem?_eq_some_iff.1 h
  exact List.drop_eq_getElem_cons hk

theorem skip_end {zs : List Int} {k : Nat} (h : zs.length ≤ k) : skip zs k = k := by
  simp [skip, List.drop_eq_nil_of_le h, nsp]

theorem skip_sp {zs : List Int} {k : Nat} {c : Int} (h : zs[k]? = some c) (hc : isSp c = true) : skip zs k = skip zs (k + 1) := by
  simp [skip, drop_cons h, nsp, hc]; omega

theorem skip_no {zs : List Int} {k : Nat} {c : Int} (h : zs[k]? = some c) (hc : isSp c = false) : skip zs k = k := by
  simp [skip, drop_cons h, nsp, hc]

theorem nsp_le (l : List Int) : nsp l ≤ l.length := by
  induction l with
  | nil => simp [nsp]
  | cons c cs ih => unfold nsp; split <;> simp <;> omega

theorem skip_le {zs : List Int} {k : Nat} (h : k ≤ zs.length) : k ≤ skip zs k ∧ skip zs k ≤ zs.length := by
  have := nsp_le (zs.drop k)
  simp [skip] at *
  omega


/-! ### The text of a list of booleans -/
def wordOf (b : Bool) : List Int := if b = true then [116, 114, 117, 101] else [102, 97, 108, 115, 101]
def sepOf (i : Nat) : Int := if i % 2 = 0 then 32 else 10
def txFrom : Nat → List Bool → List Int
  | _, [] => []
  | i, b :: bs => sepOf i :: (wordOf b ++ txFrom (i + 1) bs)
def txTo (bs : List Bool) (k : Nat) : List Int := txFrom 0 (bs.take k)

theorem wordOf_len (b : Bool) : 4 ≤ (wordOf b).length ∧ (wordOf b).length ≤ 5 := by cases b <;> simp [wordOf]

theorem txFrom_append (l r : List Bool) : ∀ i, txFrom i (l ++ r) = txFrom i l ++ txFrom (i + l.length) r := by
  induction l with
  | nil => intro i; simp [txFrom]
  | cons b l ih => intro i; simp [txFrom, ih, Nat.add_assoc, Nat.add_comm 1]

theorem txFrom_len (l : List Bool) : ∀ i, (txFrom i l).length ≤ 6 * l.length := by
  induction l with
  | nil => intro i; simp [txFrom]
  | cons b l ih => intro i; have := ih (i + 1); have := wordOf_len b; simp [txFrom]; omega

theorem txTo_len (bs : List Bool) (k : Nat) : (txTo bs k).length ≤ 6 * k := by
  have := txFrom_len (bs.take k) 0
  have : (bs.take k).length ≤ k := List.length_take_le _ _
  unfold txTo; omega

theorem take_snoc' {bs : List Bool} {k : Nat} {b : Bool} (h : bs[k]? = some b) : bs.take (k + 1) = bs.take k ++ [b] := by
  obtain ⟨hk, rfl⟩ := List.getElem?_eq_some_iff.1 h
  exact List.take_succ_eq_append_getElem hk

theorem txTo_succ {bs : List Bool} {k : Nat} {b : Bool} (h : bs[k]? = some b) : txTo bs (k + 1) = (txTo bs k ++ [sepOf k]) ++ wordOf b := by
  have hk := (List.getElem?_eq_some_iff.1 h).1
  unfold txTo
  rw [take_snoc' h, txFrom_append]
  simp [txFrom, Nat.min_eq_left (Nat.le_of_lt hk)]

theorem txTo_all (bs : List Bool) (k : Nat) : ∃ r, txTo bs bs.length = txTo bs k ++ r := by
  unfold txTo
  have h := txFrom_append (bs.take k) (bs.drop k) 0
  rw [List.take_append_drop] at h
  rw [List.take_length, h]
  exact ⟨_, rfl⟩

theorem txFrom_bytes (l : List Bool) : ∀ i, ∀ c ∈ txFrom i l, 0 ≤ c ∧ c ≤ 255 := by
  induction l with
  | nil => intro i c hc; simp [txFrom] at hc
  | cons b l ih =>
    intro i c hc
    simp only [txFrom, List.mem_cons, List.mem_append] at hc
    rcases hc with rfl | hc | hc
    · unfold sepOf; split <;> omega
    · cases b <;> simp [wordOf] at hc <;> omega
    · exact ih _ c hc

theorem txTo_bytes (bs : List Bool) (k : Nat) : ∀ c ∈ txTo bs k, 0 ≤ c ∧ c ≤ 255 := txFrom_bytes _ _

theorem isSp_sep (k : Nat) : isSp (sepOf k) = true := by unfold sepOf; split <;> rfl

/-- Reading on at the k-th word: the space is skipped, the word lies behind it. -/
theorem word_at {bs : List Bool} {k : Nat} {b : Bool} (h : bs[k]? = some b) :
    skip (txTo bs bs.length) (txTo bs k).length = (txTo bs k).length + 1 ∧ (∀ j c, (wordOf b)[j]? = some c → (txTo bs bs.length)[(txTo bs k).length + 1 + j]? = some c) ∧
      (txTo bs (k + 1)).length = (txTo bs k).length + 1 + (wordOf b).length ∧ (txTo bs (k + 1)).length ≤ (txTo bs bs.length).length := by
  obtain ⟨r, hr⟩ := txTo_all bs (k + 1)
  rw [txTo_succ h] at hr
  have hl : (txTo bs (k + 1)).length = (txTo bs k).length + 1 + (wordOf b).length := by rw [txTo_succ h]; simp; omega
  generalize hT : txTo bs bs.length = T at *
  generalize txTo bs k = t at *
  refine ⟨?_, ?_, hl, ?_⟩
  · subst hr
    have : (t ++ [sepOf k] ++ wordOf b ++ r).drop t.length = sepOf k :: (wordOf b ++ r) := by simp
    unfold skip
    rw [this]
    cases b <;> simp [nsp, isSp_sep, wordOf] <;> simp [isSp]
  · intro j c hj
    subst hr
    have hjl := (List.getElem?_eq_some_iff.1 hj).1
    rw [List.getElem?_append_left (by simp; omega), List.getElem?_append_right (by simp)]
    simpa using hj
  · rw [hl, hr]; simp; omega

end Go.Proofs.Qxb6603827a
