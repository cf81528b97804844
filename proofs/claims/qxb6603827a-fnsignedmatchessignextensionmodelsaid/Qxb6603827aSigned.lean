import Derived.Test.Qxb6603827aZZNumber
namespace Go.Proofs.Qxb6603827a
open Go.RowKit

def limOf (size : Int) : Int := 2 ^ (size.toNat - 1)
def signedOf (L : Int) (m : Bool) (n : Int) : Int × Bool :=
  if m = true then (if n ≤ L then (-n, false) else (0, true)) else (if n < L then (n, false) else (0, true))

theorem pow2_le {a b : Nat} (h : a ≤ b) : (2 : Int) ^ a ≤ 2 ^ b := by
  have : (2 : Nat) ^ a ≤ 2 ^ b := Nat.pow_le_pow_right (by omega) h
  exact_mod_cast this

theorem limOf_bounds {size : Int} (h2 : size ≤ 64) : 1 ≤ limOf size ∧ limOf size ≤ 9223372036854775808 := by
  unfold limOf
  have a := pow2_le (a := 0) (b := size.toNat - 1) (by omega)
  have b := pow2_le (a := size.toNat - 1) (b := 63) (by omega)
  constructor
  · simpa using a
  · exact Int.le_trans b (by decide)

theorem wrap_lim {size : Int} (h2 : size ≤ 64) : IntKind.u64.wrap (2 ^ (size.toNat - 1)) = limOf size := by
  have := limOf_bounds h2
  have e : IntKind.u64.wrap (limOf size) = limOf size := by rw [IntKind.wrap_u64]; omega
  exact e

theorem wrap_neg {n : Int} (h0 : 0 ≤ n) (h1 : n ≤ 9223372036854775808) : wrap64 (-wrap64 n) = -n := by
  unfold wrap64; omega

theorem number_bounds {zs : List Int} {k : Nat} {m : Bool} {n : Int} {i : Nat} {f : Bool} (h : number zs k = (m, n, i, f)) (hk : k ≤ zs.length) : 0 ≤ n ∧ n ≤ maxU ∧ i ≤ zs.length := by
  unfold number at h
  have hs := numStart_le (skip_le hk).2
  generalize numStart zs (skip zs k) = s at *
  generalize numMinus zs (skip zs k) = mm at *
  have hb := numLoop_bounds (zs.drop s) 0 s (by omega) (by unfold maxU; omega)
  generalize numLoop (zs.drop s) 0 s = r at *
  have hl : (zs.drop s).length = zs.length - s := by simp
  unfold numEnd at h
  split at h
  · obtain ⟨_, rfl, rfl, _⟩ := inj4 h
    refine ⟨hb.1, hb.2.1, by omega⟩
  · obtain ⟨_, rfl, rfl, _⟩ := inj4 h
    refine ⟨by omega, by unfold maxU; omega, by omega⟩

set_option maxHeartbeats 400000 in
theorem signed_ok (zs : List Int) (a : Option Addr) (cap rb k : Nat) (size : Int) (hs1 : 1 ≤ size) (hs2 : size ≤ 64) (w : World) (hr : RdAt w rb (.slice a zs.length cap) k false) (hd : Dat w rb zs a) (hk : k ≤ zs.length) (hl : zs.length ≤ 1099511627776)
    (m' : Bool) (n' : Int) (i' : Nat) (hR : number zs k = (m', n', i', false)) (v' : Int) (f' : Bool) (hS : signedOf (limOf size) m' n' = (v', f')) :
    Calls Try.prog 25 #[.pointer (some ⟨rb, 0, none⟩), .int .i64 size] w fun e w' => e = .returned (.int .i64 v') ∧ Below rb w w' ∧ RdAt w' rb (.slice a zs.length cap) i' f' := by
  have hn := number_bounds hR hk
  unfold maxU at hn
  have HR : Hid (number zs k = (m', n', i', false)) := hR
  clear hR
  have hL := wrap_lim hs2
  have hLb := limOf_bounds hs2
  generalize limOf size = L at *
  have HS : Hid (signedOf L m' n' = (v', f')) := hS
  clear hS
  cases m'
  · by_cases hc : n' < L
    · have hc' : decide (n' < L) = true := by simpa using hc
      have h1 : Hid (v' = n' ∧ f' = false) := by
        have h := HS.out; simp [signedOf, hc] at h; exact ⟨h.1.symm, h.2⟩
      go_enter Try.func25, Try.ntmps25
      go_wp2_with fail
      refine (number_any zs a cap rb k w hr hd hk hl _ n' i' false HR.out).mono ?_
      rintro e w1 ⟨rfl, hb, hr1⟩
      have HR1 := hr1
      obtain ⟨c0, c1, c2, z1, z2, sz⟩ := hr1
      go_wp2
      go_ret
      rw [h1.out.1, h1.out.2]
      exact ⟨rfl, hb, HR1⟩
    · have hc' : decide (n' < L) = false := by simpa using hc
      have h1 : Hid (v' = 0 ∧ f' = true) := by
        have h := HS.out; simp [signedOf, hc] at h; exact ⟨h.1.symm, h.2⟩
      go_enter Try.func25, Try.ntmps25
      go_wp2_with fail
      refine (number_any zs a cap rb k w hr hd hk hl _ n' i' false HR.out).mono ?_
      rintro e w1 ⟨rfl, hb, hr1⟩
      have HR1 := hr1
      obtain ⟨c0, c1, c2, z1, z2, sz⟩ := hr1
      go_wp2
      go_ret
      rw [h1.out.1, h1.out.2]
      exact ⟨rfl, hb.setCell (by simp) _, HR1.fail _⟩
  · by_cases hc : n' ≤ L
    · have hc' : decide (n' ≤ L) = true := by simpa using hc
      have h1 : Hid (v' = -n' ∧ f' = false) := by
        have h := HS.out; simp [signedOf, hc] at h; exact ⟨h.1.symm, h.2⟩
      have hw := wrap_neg hn.1 (Int.le_trans hc hLb.2)
      have HW : Hid (wrap64 (-wrap64 n') = -n') := hw
      clear hw
      go_enter Try.func25, Try.ntmps25
      go_wp2_with fail
      refine (number_any zs a cap rb k w hr hd hk hl _ n' i' false HR.out).mono ?_
      rintro e w1 ⟨rfl, hb, hr1⟩
      have HR1 := hr1
      obtain ⟨c0, c1, c2, z1, z2, sz⟩ := hr1
      go_wp2
      go_ret
      rw [h1.out.1, h1.out.2]
      exact ⟨by rw [← HW.out]; rfl, hb, HR1⟩
    · have hc' : decide (n' ≤ L) = false := by simpa using hc
      have h1 : Hid (v' = 0 ∧ f' = true) := by
        have h := HS.out; simp [signedOf, hc] at h; exact ⟨h.1.symm, h.2⟩
      go_enter Try.func25, Try.ntmps25
      go_wp2_with fail
      refine (number_any zs a cap rb k w hr hd hk hl _ n' i' false HR.out).mono ?_
      rintro e w1 ⟨rfl, hb, hr1⟩
      have HR1 := hr1
      obtain ⟨c0, c1, c2, z1, z2, sz⟩ := hr1
      go_wp2
      go_ret
      rw [h1.out.1, h1.out.2]
      exact ⟨rfl, hb.setCell (by simp) _, HR1.fail _⟩

set_option maxHeartbeats 400000 in
theorem signed_of_failed (a : Option Addr) (n cap rb i' : Nat) (size : Int) (hs1 : 1 ≤ size) (hs2 : size ≤ 64) (m' : Bool) (n' : Int) (w : World)
    (H : Hid (Calls Try.prog 22 #[.pointer (some ⟨rb, 0, none⟩)] w fun e w' => e = .returned (.tuple #[.bool m', .int .u64 n']) ∧ Below rb w w' ∧ RdAt w' rb (.slice a n cap) i' true)) :
    Calls Try.prog 25 #[.pointer (some ⟨rb, 0, none⟩), .int .i64 size] w fun e w' => e = .returned (.int .i64 0) ∧ Below rb w w' ∧ RdAt w' rb (.slice a n cap) i' true := by
  go_enter Try.func25, Try.ntmps25
  go_wp2_with fail
  refine (H.out).mono ?_
  rintro e w1 ⟨rfl, hb, hr1⟩
  have HR1 := hr1
  obtain ⟨c0, c1, c2, z1, z2, sz⟩ := hr1
  go_wp2
  go_ret
  exact ⟨rfl, hb, HR1⟩

set_option maxHeartbeats 400000 in
theorem zzsigned_of (a : Option Addr) (n cap k k' : Nat) (f f' : Bool) (x size : Int) (w : World)
    (H : Hid (Calls Try.prog 25 #[.pointer (some ⟨w.heap.size, 0, none⟩), .int .i64 size] (w.alloc (.cells #[.slice a n cap, .int .i64 (k : Int), .bool f] 46)) fun e w' =>
      e = .returned (.int .i64 x) ∧ Below w.heap.size (w.alloc (.cells #[.slice a n cap, .int .i64 (k : Int), .bool f] 46)) w' ∧ RdAt w' w.heap.size (.slice a n cap) k' f')) :
    Calls Try.prog 21 #[.slice a n cap, .int .i64 (k : Int), .bool f, .int .i64 size] w fun e w' => e = .returned (.tuple #[.int .i64 x, .int .i64 (k' : Int), .bool f']) ∧ Below w.heap.size w w' := by
  go_enter Try.func21, Try.ntmps21
  go_wp2_with fail
  refine (H.out).mono ?_
  rintro e w1 ⟨rfl, hb, hr⟩
  obtain ⟨c0, c1, c2, z1, z2, sz⟩ := hr
  go_wp2
  go_quiet (fail)
  go_wp2
  go_ret3
  exact ⟨rfl, below_drewN (((Below.refl _ _).alloc (Nat.le_refl _) _).trans hb) _⟩

theorem zzsigned_ok (zs : List Int) (a : Option Addr) (cap k : Nat) (size : Int) (hs1 : 1 ≤ size) (hs2 : size ≤ 64) (w : World) (hd : Dat w w.heap.size zs a) (hk : k ≤ zs.length) (hl : zs.length ≤ 1099511627776)
    (m' : Bool) (n' : Int) (i' : Nat) (hR : number zs k = (m', n', i', false)) (v' : Int) (f' : Bool) (hS : signedOf (limOf size) m' n' = (v', f')) :
    Calls Try.prog 21 #[.slice a zs.length cap, .int .i64 (k : Int), .bool false, .int .i64 size] w fun e w' => e = .returned (.tuple #[.int .i64 v', .int .i64 (i' : Int), .bool f']) ∧ Below w.heap.size w w' :=
  zzsigned_of _ _ _ _ _ _ _ _ _ _ (signed_ok zs a cap w.heap.size k size hs1 hs2 _ (RdAt.new' _ _ _ _ _) (hd.new' _) hk hl m' n' i' hR v' f' hS)

theorem zzsigned_no (zs : List Int) (a : Option Addr) (cap k : Nat) (size : Int) (hs1 : 1 ≤ size) (hs2 : size ≤ 64) (w : World) (hd : Dat w w.heap.size zs a) (hk : k ≤ zs.length) (hl : zs.length ≤ 1099511627776)
    (m' : Bool) (n' : Int) (i' : Nat) (hR : number zs k = (m', n', i', true)) :
    Calls Try.prog 21 #[.slice a zs.length cap, .int .i64 (k : Int), .bool false, .int .i64 size] w fun e w' => e = .returned (.tuple #[.int .i64 0, .int .i64 (i' : Int), .bool true]) ∧ Below w.heap.size w w' :=
  zzsigned_of _ _ _ _ _ _ _ _ _ _ (signed_of_failed a zs.length cap w.heap.size i' size hs1 hs2 m' n' _ (number_any zs a cap w.heap.size k _ (RdAt.new' _ _ _ _ _) (hd.new' _) hk hl m' n' i' true hR))

theorem zzsigned_failed (zs : List Int) (a : Option Addr) (cap k : Nat) (size : Int) (hs1 : 1 ≤ size) (hs2 : size ≤ 64) (w : World) (hd : Dat w w.heap.size zs a) (hk : k ≤ zs.length) (hl : zs.length ≤ 1099511627776) :
    Calls Try.prog 21 #[.slice a zs.length cap, .int .i64 (k : Int), .bool true, .int .i64 size] w fun e w' => e = .returned (.tuple #[.int .i64 0, .int .i64 (skip zs k : Int), .bool true]) ∧ Below w.heap.size w w' :=
  zzsigned_of _ _ _ _ _ _ _ _ _ _ (signed_of_failed a zs.length cap w.heap.size (skip zs k) size hs1 hs2 false 0 _ (number_failed zs a cap w.heap.size k _ (RdAt.new' _ _ _ _ _) (hd.new' _) hk hl))
end Go.Proofs.Qxb6603827a
