import Derived.Test.Qxb6603827aSMatch
import Derived.Test.Qxb6603827aRowDat
namespace Go.Proofs.Qxb6603827a
open Go.RowKit

set_option maxHeartbeats 400000 in
theorem sm_long (a : Option Addr) (len cap : Nat) (x y : Int) (f : Bool) (w : World) (h : 1048576 < len) (hm : len ≤ maxLen) :
    Calls Try.prog 6 #[.slice a len cap, .int .i64 x, .bool f, .int .i64 y] w fun e w' => e = .returned (.bool true) ∧ Below w.heap.size w w' := by
  unfold maxLen at hm
  have h20 : decide ((1048576 : Int) < (len : Int)) = true := by simp; omega
  go_enter Try.func6, Try.ntmps6
  go_wp2
  go_ret
  exact ⟨rfl, Below.refl _ _⟩

set_option maxHeartbeats 400000 in
theorem sm_at (a : Option Addr) (len cap : Nat) (x y : Int) (f : Bool) (w : World) (h : len ≤ 1048576) (hx : x < 0 ∨ (len : Int) < x) :
    Calls Try.prog 6 #[.slice a len cap, .int .i64 x, .bool f, .int .i64 y] w fun e w' => e = .returned (.bool true) ∧ Below w.heap.size w w' := by
  have h20 : decide ((1048576 : Int) < (len : Int)) = false := by simp; omega
  by_cases hx0 : x < 0
  · have e0 : decide (x < 0) = true := by simpa using hx0
    go_enter Try.func6, Try.ntmps6
    go_wp2
    go_ret
    exact ⟨rfl, Below.refl _ _⟩
  · have e0 : decide (x < 0) = false := by simpa using hx0
    have e1 : decide ((len : Int) < x) = true := decide_eq_true (by omega)
    go_enter Try.func6, Try.ntmps6
    go_wp2
    go_ret
    exact ⟨rfl, Below.refl _ _⟩

set_option maxHeartbeats 400000 in
theorem sm_size (a : Option Addr) (len cap : Nat) (x y : Int) (f : Bool) (w : World) (h : len ≤ 1048576) (hx0 : 0 ≤ x) (hx1 : x ≤ (len : Int)) (hy : y < 1 ∨ 64 < y) :
    Calls Try.prog 6 #[.slice a len cap, .int .i64 x, .bool f, .int .i64 y] w fun e w' => e = .returned (.bool true) ∧ Below w.heap.size w w' := by
  have h20 : decide ((1048576 : Int) < (len : Int)) = false := by simp; omega
  have e0 : decide (x < 0) = false := decide_eq_false (by omega)
  have e1 : decide ((len : Int) < x) = false := decide_eq_false (by omega)
  by_cases hy0 : y < 1
  · have f0 : decide (y < 1) = true := by simpa using hy0
    go_enter Try.func6, Try.ntmps6
    go_wp2
    go_ret
    exact ⟨rfl, Below.refl _ _⟩
  · have f0 : decide (y < 1) = false := by simpa using hy0
    have f1 : decide (64 < y) = true := decide_eq_true (by omega)
    go_enter Try.func6, Try.ntmps6
    go_wp2
    go_ret
    exact ⟨rfl, Below.refl _ _⟩

theorem div_ge {n L : Int} (hL : 1 ≤ L) (h : L ≤ n) : 1 ≤ n / L := by
  have := Int.ediv_le_ediv (show 0 < L by omega) h
  rw [Int.ediv_self (by omega)] at this
  exact this

theorem div_lo {n L : Int} (hL : 1 ≤ L) (h : n < -L) : n / L ≤ -2 := by
  have e := Int.mul_ediv_add_emod n L
  have a := Int.emod_nonneg n (show L ≠ 0 by omega)
  have b := Int.emod_lt_of_pos n (show 0 < L by omega)
  apply Classical.byContradiction
  intro hc
  have h1 : -1 ≤ n / L := by omega
  have h2 : L * (-1) ≤ L * (n / L) := Int.mul_le_mul_of_nonneg_left h1 (by omega)
  omega

theorem div_small {n L : Int} (h0 : 0 ≤ n) (h : n < L) : n / L = 0 := Int.ediv_eq_zero_of_lt h0 h

theorem div_m1 {n L : Int} (hL : 1 ≤ L) (h0 : n < 0) (h : -L ≤ n) : n / L = -1 := by
  have e := Int.mul_ediv_add_emod n L
  have a := Int.emod_nonneg n (show L ≠ 0 by omega)
  have b := Int.emod_lt_of_pos n (show 0 < L by omega)
  have h1 : n / L ≤ -1 := by
    apply Classical.byContradiction
    intro hc
    have h1 : 0 ≤ n / L := by omega
    have h2 := Int.mul_nonneg (show 0 ≤ L by omega) h1
    omega
  have h2 : -1 ≤ n / L := by
    apply Classical.byContradiction
    intro hc
    have h1 : n / L ≤ -2 := by omega
    have h2 : L * (n / L) ≤ L * (-2) := Int.mul_le_mul_of_nonneg_left h1 (by omega)
    omega
  omega

theorem sm_main (zs : List Int) (a : Option Addr) (cap k : Nat) (f : Bool) (size : Int) (w : World) (hd : Dat w w.heap.size zs a) (hk : k ≤ zs.length) (hl : zs.length ≤ 1048576) (hs1 : 1 ≤ size) (hs2 : size ≤ 64) :
    Calls Try.prog 6 #[.slice a zs.length cap, .int .i64 (k : Int), .bool f, .int .i64 size] w fun e w' => e = .returned (.bool true) ∧ Below w.heap.size w w' := by
  cases f with
  | true =>
    exact sm_nf zs a cap k (skip zs k) true size false 0 w hd hk hl hs1 hs2 (fun a c w h => zzsigned_failed zs a c k size hs1 hs2 w h hk (by omega)) (fun a c w h => zznumber_failed zs a c k w h hk (by omega))
  | false =>
    obtain ⟨⟨m, n, i, nf⟩, hR⟩ : ∃ r, number zs k = r := ⟨_, rfl⟩
    have hb := number_bounds hR hk
    have HN : Ans10 zs k false m n i nf := fun a c w h => zznumber_any zs a c k w h hk (by omega) m n i nf hR
    cases nf with
    | true => exact sm_nf zs a cap k i false size m n w hd hk hl hs1 hs2 (fun a c w h => zzsigned_no zs a c k size hs1 hs2 w h hk (by omega) m n i hR) HN
    | false =>
      obtain ⟨⟨v, f'⟩, hS⟩ : ∃ r, signedOf (limOf size) m n = r := ⟨_, rfl⟩
      have HS : Ans21 zs k false size v i f' := fun a c w h => zzsigned_ok zs a c k size hs1 hs2 w h hk (by omega) m n i hR v f' hS
      have hL := limOf_bounds hs2
      have e : (2 : Int) ^ (size.toNat - 1) = limOf size := rfl
      cases m with
      | false =>
        by_cases h1 : n < limOf size
        · simp [signedOf, h1] at hS
          obtain ⟨rfl, rfl⟩ := hS
          exact sm_1 zs a cap k i false size n w hd hk hl hs1 hs2 HS HN hb.1 (by omega) (by rw [e]; exact div_small hb.1 h1)
        · simp [signedOf, h1] at hS
          obtain ⟨rfl, rfl⟩ := hS
          by_cases h2 : n < 9223372036854775808
          · have hg := div_ge hL.1 (show limOf size ≤ n by omega)
            exact sm_2 zs a cap k i false size n w hd hk hl hs1 hs2 HS HN hb.1 h2 (n / limOf size) (by rw [e]) (beq_eq_false_iff_ne.2 (by omega)) (beq_eq_false_iff_ne.2 (by omega))
          · exact sm_3 zs a cap k i false size n w hd hk hl hs1 hs2 HS HN (decide_eq_false h2)
      | true =>
        by_cases h1 : n ≤ limOf size
        · simp [signedOf, h1] at hS
          obtain ⟨rfl, rfl⟩ := hS
          by_cases h0 : n = 0
          · subst h0
            exact sm_4 zs a cap k i false size w hd hk hl hs1 hs2 HS HN
          · exact sm_5 zs a cap k i false size n (-n) w hd hk hl hs1 hs2 HS HN (by omega) (by omega) (by rw [e]; exact div_m1 hL.1 (by omega) (by omega)) (beq_iff_eq.2 (by omega))
        · simp [signedOf, h1] at hS
          obtain ⟨rfl, rfl⟩ := hS
          by_cases h2 : n ≤ 9223372036854775808
          · have hg := div_lo hL.1 (show -(n - 1) - 1 < -limOf size by omega)
            exact sm_6 zs a cap k i false size n w hd hk hl hs1 hs2 HS HN (by omega) h2 ((-(n - 1) - 1) / limOf size) (by rw [e]) (beq_eq_false_iff_ne.2 (by omega)) (beq_eq_false_iff_ne.2 (by omega))
          · exact sm_7 zs a cap k i false size n w hd hk hl hs1 hs2 HS HN (decide_eq_false h2)

theorem sm_any (zs : List Int) (a : Option Addr) (cap : Nat) (x : Int) (f : Bool) (size : Int) (w : World) (hd : Dat w w.heap.size zs a) (hm : zs.length ≤ maxLen) :
    Calls Try.prog 6 #[.slice a zs.length cap, .int .i64 x, .bool f, .int .i64 size] w fun e w' => e = .returned (.bool true) ∧ Below w.heap.size w w' := by
  by_cases hl : zs.length ≤ 1048576
  · by_cases hx : x < 0 ∨ (zs.length : Int) < x
    · exact sm_at a zs.length cap x size f w hl hx
    · by_cases hs : size < 1 ∨ 64 < size
      · exact sm_size a zs.length cap x size f w hl (by omega) (by omega) hs
      · obtain ⟨k, rfl⟩ := Int.eq_ofNat_of_zero_le (show 0 ≤ x by omega)
        exact sm_main zs a cap k f size w hd (by omega) hl (by omega) (by omega)
  · exact sm_long a zs.length cap x size f w (by omega) hm
end Go.Proofs.Qxb6603827a
