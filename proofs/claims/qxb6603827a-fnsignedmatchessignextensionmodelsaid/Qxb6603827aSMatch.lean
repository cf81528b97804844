import Derived.Test.Qxb6603827aSigned
import Derived.Test.Qxb6603827aCopy
namespace Go.Proofs.Qxb6603827a
open Go.RowKit

set_option maxHeartbeats 400000 in
theorem size20 (a : Option Addr) (l cap : Nat) (x y : Int) (f : Bool) (w : World) (hl : l ≤ 1048576) : Calls Try.prog 20 #[.slice a l cap, .int .i64 x, .bool f, .int .i64 y] w fun e w' => e = .returned (.bool true) ∧ w' = w := by
  have h20 : decide ((1048576 : Int) < (l : Int)) = false := by simp; omega
  go_enter Try.func20, Try.ntmps20
  go_wp2
  go_ret
  exact ⟨rfl, rfl⟩

/-- What ZZSigned answers for the bytes zs at place k, wherever they lie. -/
def Ans21 (zs : List Int) (k : Nat) (f : Bool) (size v : Int) (i : Nat) (f' : Bool) : Prop :=
  ∀ (a : Option Addr) (cap : Nat) (w : World), Dat w w.heap.size zs a → Calls Try.prog 21 #[.slice a zs.length cap, .int .i64 (k : Int), .bool f, .int .i64 size] w fun e w' => e = .returned (.tuple #[.int .i64 v, .int .i64 (i : Int), .bool f']) ∧ Below w.heap.size w w'
/-- What ZZNumber answers for the bytes zs at place k, wherever they lie. -/
def Ans10 (zs : List Int) (k : Nat) (f : Bool) (m : Bool) (n : Int) (i : Nat) (nf : Bool) : Prop :=
  ∀ (a : Option Addr) (cap : Nat) (w : World), Dat w w.heap.size zs a → Calls Try.prog 10 #[.slice a zs.length cap, .int .i64 (k : Int), .bool f] w fun e w' => e = .returned (.tuple #[.bool m, .int .u64 n, .int .i64 (i : Int), .bool nf]) ∧ Below w.heap.size w w'

theorem Dat.mono_to {w : World} {B B' : Nat} {zs : List Int} {a : Option Addr} (h : Dat w B zs a) (hB : B ≤ B') : Dat w B' zs a := by
  intro k c hc
  obtain ⟨b, off, e, hlt, r⟩ := h k c hc
  exact ⟨b, off, e, by omega, r⟩

set_option maxHeartbeats 400000 in
theorem sm_nf (zs : List Int) (a : Option Addr) (cap k i : Nat) (f : Bool) (size : Int) (m : Bool) (n : Int) (w : World) (hd : Dat w w.heap.size zs a) (hk : k ≤ zs.length) (hl : zs.length ≤ 1048576) (hs1 : 1 ≤ size) (hs2 : size ≤ 64)
    (HS : Ans21 zs k f size 0 i true) (HN : Ans10 zs k f m n i true)  :
    Calls Try.prog 6 #[.slice a zs.length cap, .int .i64 (k : Int), .bool f, .int .i64 size] w fun e w' => e = .returned (.bool true) ∧ Below w.heap.size w w' := by
  have h20 : decide ((1048576 : Int) < (zs.length : Int)) = false := by simp; omega
  have hk0 : decide ((k : Int) < 0) = false := by simp
  have hk1 : decide ((zs.length : Int) < (k : Int)) = false := by simp; omega
  have hd1 : decide (size < 1) = false := by simp; omega
  have hd2 : decide (64 < size) = false := by simp; omega
  go_enter Try.func6, Try.ntmps6
  go_wp2_with (go_at_call 20; refine (size20 _ _ _ _ _ _ _ (by omega)).mono ?_; rintro e w' ⟨rfl, rfl⟩)
  refine (copy_any a zs cap _ hd (by omega)).mono ?_
  rintro e w1 ⟨a1, c1, rfl, hdat, hbe1⟩
  go_wp2_with fail
  refine (HS a1 c1 w1 hdat).mono ?_
  rintro e w2 ⟨rfl, hbe2⟩
  have hdat2 := (hdat.below hbe2).mono_to hbe2.size
  go_wp2_with fail
  refine (HN a1 c1 w2 hdat2).mono ?_
  rintro e w3 ⟨rfl, hbe3⟩
  go_wp2
  go_ret
  exact ⟨rfl, hbe1.trans ((hbe2.trans (hbe3.mono hbe2.size)).mono hbe1.size)⟩

set_option maxHeartbeats 400000 in
theorem sm_1 (zs : List Int) (a : Option Addr) (cap k i : Nat) (f : Bool) (size : Int) (n : Int) (w : World) (hd : Dat w w.heap.size zs a) (hk : k ≤ zs.length) (hl : zs.length ≤ 1048576) (hs1 : 1 ≤ size) (hs2 : size ≤ 64)
    (HS : Ans21 zs k f size n i false) (HN : Ans10 zs k f false n i false) (h0 : 0 ≤ n) (h63 : n < 9223372036854775808) (hT : n / 2 ^ (size.toNat - 1) = 0) :
    Calls Try.prog 6 #[.slice a zs.length cap, .int .i64 (k : Int), .bool f, .int .i64 size] w fun e w' => e = .returned (.bool true) ∧ Below w.heap.size w w' := by
  have h20 : decide ((1048576 : Int) < (zs.length : Int)) = false := by simp; omega
  have hk0 : decide ((k : Int) < 0) = false := by simp
  have hk1 : decide ((zs.length : Int) < (k : Int)) = false := by simp; omega
  have hd1 : decide (size < 1) = false := by simp; omega
  have hd2 : decide (64 < size) = false := by simp; omega
  go_enter Try.func6, Try.ntmps6
  go_wp2_with (go_at_call 20; refine (size20 _ _ _ _ _ _ _ (by omega)).mono ?_; rintro e w' ⟨rfl, rfl⟩)
  refine (copy_any a zs cap _ hd (by omega)).mono ?_
  rintro e w1 ⟨a1, c1, rfl, hdat, hbe1⟩
  go_wp2_with fail
  refine (HS a1 c1 w1 hdat).mono ?_
  rintro e w2 ⟨rfl, hbe2⟩
  have hdat2 := (hdat.below hbe2).mono_to hbe2.size
  go_wp2_with fail
  refine (HN a1 c1 w2 hdat2).mono ?_
  rintro e w3 ⟨rfl, hbe3⟩
  go_wp2
  go_ret
  exact ⟨rfl, hbe1.trans ((hbe2.trans (hbe3.mono hbe2.size)).mono hbe1.size)⟩

set_option maxHeartbeats 400000 in
theorem sm_2 (zs : List Int) (a : Option Addr) (cap k i : Nat) (f : Bool) (size : Int) (n : Int) (w : World) (hd : Dat w w.heap.size zs a) (hk : k ≤ zs.length) (hl : zs.length ≤ 1048576) (hs1 : 1 ≤ size) (hs2 : size ≤ 64)
    (HS : Ans21 zs k f size 0 i true) (HN : Ans10 zs k f false n i false) (h0 : 0 ≤ n) (h63 : n < 9223372036854775808) (t : Int) (hT : n / 2 ^ (size.toNat - 1) = t) (ht0 : (t == 0) = false) (ht1 : (t == -1) = false) :
    Calls Try.prog 6 #[.slice a zs.length cap, .int .i64 (k : Int), .bool f, .int .i64 size] w fun e w' => e = .returned (.bool true) ∧ Below w.heap.size w w' := by
  have h20 : decide ((1048576 : Int) < (zs.length : Int)) = false := by simp; omega
  have hk0 : decide ((k : Int) < 0) = false := by simp
  have hk1 : decide ((zs.length : Int) < (k : Int)) = false := by simp; omega
  have hd1 : decide (size < 1) = false := by simp; omega
  have hd2 : decide (64 < size) = false := by simp; omega
  go_enter Try.func6, Try.ntmps6
  go_wp2_with (go_at_call 20; refine (size20 _ _ _ _ _ _ _ (by omega)).mono ?_; rintro e w' ⟨rfl, rfl⟩)
  refine (copy_any a zs cap _ hd (by omega)).mono ?_
  rintro e w1 ⟨a1, c1, rfl, hdat, hbe1⟩
  go_wp2_with fail
  refine (HS a1 c1 w1 hdat).mono ?_
  rintro e w2 ⟨rfl, hbe2⟩
  have hdat2 := (hdat.below hbe2).mono_to hbe2.size
  go_wp2_with fail
  refine (HN a1 c1 w2 hdat2).mono ?_
  rintro e w3 ⟨rfl, hbe3⟩
  go_wp2
  go_ret
  exact ⟨rfl, hbe1.trans ((hbe2.trans (hbe3.mono hbe2.size)).mono hbe1.size)⟩

set_option maxHeartbeats 400000 in
theorem sm_3 (zs : List Int) (a : Option Addr) (cap k i : Nat) (f : Bool) (size : Int) (n : Int) (w : World) (hd : Dat w w.heap.size zs a) (hk : k ≤ zs.length) (hl : zs.length ≤ 1048576) (hs1 : 1 ≤ size) (hs2 : size ≤ 64)
    (HS : Ans21 zs k f size 0 i true) (HN : Ans10 zs k f false n i false) (h63 : decide (n < 9223372036854775808) = false) :
    Calls Try.prog 6 #[.slice a zs.length cap, .int .i64 (k : Int), .bool f, .int .i64 size] w fun e w' => e = .returned (.bool true) ∧ Below w.heap.size w w' := by
  have h20 : decide ((1048576 : Int) < (zs.length : Int)) = false := by simp; omega
  have hk0 : decide ((k : Int) < 0) = false := by simp
  have hk1 : decide ((zs.length : Int) < (k : Int)) = false := by simp; omega
  have hd1 : decide (size < 1) = false := by simp; omega
  have hd2 : decide (64 < size) = false := by simp; omega
  go_enter Try.func6, Try.ntmps6
  go_wp2_with (go_at_call 20; refine (size20 _ _ _ _ _ _ _ (by omega)).mono ?_; rintro e w' ⟨rfl, rfl⟩)
  refine (copy_any a zs cap _ hd (by omega)).mono ?_
  rintro e w1 ⟨a1, c1, rfl, hdat, hbe1⟩
  go_wp2_with fail
  refine (HS a1 c1 w1 hdat).mono ?_
  rintro e w2 ⟨rfl, hbe2⟩
  have hdat2 := (hdat.below hbe2).mono_to hbe2.size
  go_wp2_with fail
  refine (HN a1 c1 w2 hdat2).mono ?_
  rintro e w3 ⟨rfl, hbe3⟩
  go_wp2
  go_ret
  exact ⟨rfl, hbe1.trans ((hbe2.trans (hbe3.mono hbe2.size)).mono hbe1.size)⟩

set_option maxHeartbeats 400000 in
theorem sm_4 (zs : List Int) (a : Option Addr) (cap k i : Nat) (f : Bool) (size : Int)  (w : World) (hd : Dat w w.heap.size zs a) (hk : k ≤ zs.length) (hl : zs.length ≤ 1048576) (hs1 : 1 ≤ size) (hs2 : size ≤ 64)
    (HS : Ans21 zs k f size 0 i false) (HN : Ans10 zs k f true 0 i false)  :
    Calls Try.prog 6 #[.slice a zs.length cap, .int .i64 (k : Int), .bool f, .int .i64 size] w fun e w' => e = .returned (.bool true) ∧ Below w.heap.size w w' := by
  have h20 : decide ((1048576 : Int) < (zs.length : Int)) = false := by simp; omega
  have hk0 : decide ((k : Int) < 0) = false := by simp
  have hk1 : decide ((zs.length : Int) < (k : Int)) = false := by simp; omega
  have hd1 : decide (size < 1) = false := by simp; omega
  have hd2 : decide (64 < size) = false := by simp; omega
  go_enter Try.func6, Try.ntmps6
  go_wp2_with (go_at_call 20; refine (size20 _ _ _ _ _ _ _ (by omega)).mono ?_; rintro e w' ⟨rfl, rfl⟩)
  refine (copy_any a zs cap _ hd (by omega)).mono ?_
  rintro e w1 ⟨a1, c1, rfl, hdat, hbe1⟩
  go_wp2_with fail
  refine (HS a1 c1 w1 hdat).mono ?_
  rintro e w2 ⟨rfl, hbe2⟩
  have hdat2 := (hdat.below hbe2).mono_to hbe2.size
  go_wp2_with fail
  refine (HN a1 c1 w2 hdat2).mono ?_
  rintro e w3 ⟨rfl, hbe3⟩
  go_wp2
  go_ret
  exact ⟨rfl, hbe1.trans ((hbe2.trans (hbe3.mono hbe2.size)).mono hbe1.size)⟩

set_option maxHeartbeats 400000 in
theorem sm_5 (zs : List Int) (a : Option Addr) (cap k i : Nat) (f : Bool) (size : Int) (n v : Int) (w : World) (hd : Dat w w.heap.size zs a) (hk : k ≤ zs.length) (hl : zs.length ≤ 1048576) (hs1 : 1 ≤ size) (hs2 : size ≤ 64)
    (HS : Ans21 zs k f size v i false) (HN : Ans10 zs k f true n i false) (h0 : 0 < n) (h63 : n ≤ 9223372036854775808) (hT : (-(n - 1) - 1) / 2 ^ (size.toNat - 1) = -1) (hv : (v == -(n - 1) - 1) = true) :
    Calls Try.prog 6 #[.slice a zs.length cap, .int .i64 (k : Int), .bool f, .int .i64 size] w fun e w' => e = .returned (.bool true) ∧ Below w.heap.size w w' := by
  have h20 : decide ((1048576 : Int) < (zs.length : Int)) = false := by simp; omega
  have hk0 : decide ((k : Int) < 0) = false := by simp
  have hk1 : decide ((zs.length : Int) < (k : Int)) = false := by simp; omega
  have hd1 : decide (size < 1) = false := by simp; omega
  have hd2 : decide (64 < size) = false := by simp; omega
  go_enter Try.func6, Try.ntmps6
  go_wp2_with (go_at_call 20; refine (size20 _ _ _ _ _ _ _ (by omega)).mono ?_; rintro e w' ⟨rfl, rfl⟩)
  refine (copy_any a zs cap _ hd (by omega)).mono ?_
  rintro e w1 ⟨a1, c1, rfl, hdat, hbe1⟩
  go_wp2_with fail
  refine (HS a1 c1 w1 hdat).mono ?_
  rintro e w2 ⟨rfl, hbe2⟩
  have hdat2 := (hdat.below hbe2).mono_to hbe2.size
  go_wp2_with fail
  refine (HN a1 c1 w2 hdat2).mono ?_
  rintro e w3 ⟨rfl, hbe3⟩
  go_wp2
  go_ret
  exact ⟨rfl, hbe1.trans ((hbe2.trans (hbe3.mono hbe2.size)).mono hbe1.size)⟩

set_option maxHeartbeats 400000 in
theorem sm_6 (zs : List Int) (a : Option Addr) (cap k i : Nat) (f : Bool) (size : Int) (n : Int) (w : World) (hd : Dat w w.heap.size zs a) (hk : k ≤ zs.length) (hl : zs.length ≤ 1048576) (hs1 : 1 ≤ size) (hs2 : size ≤ 64)
    (HS : Ans21 zs k f size 0 i true) (HN : Ans10 zs k f true n i false) (h0 : 0 < n) (h63 : n ≤ 9223372036854775808) (t : Int) (hT : (-(n - 1) - 1) / 2 ^ (size.toNat - 1) = t) (ht0 : (t == 0) = false) (ht1 : (t == -1) = false) :
    Calls Try.prog 6 #[.slice a zs.length cap, .int .i64 (k : Int), .bool f, .int .i64 size] w fun e w' => e = .returned (.bool true) ∧ Below w.heap.size w w' := by
  have h20 : decide ((1048576 : Int) < (zs.length : Int)) = false := by simp; omega
  have hk0 : decide ((k : Int) < 0) = false := by simp
  have hk1 : decide ((zs.length : Int) < (k : Int)) = false := by simp; omega
  have hd1 : decide (size < 1) = false := by simp; omega
  have hd2 : decide (64 < size) = false := by simp; omega
  go_enter Try.func6, Try.ntmps6
  go_wp2_with (go_at_call 20; refine (size20 _ _ _ _ _ _ _ (by omega)).mono ?_; rintro e w' ⟨rfl, rfl⟩)
  refine (copy_any a zs cap _ hd (by omega)).mono ?_
  rintro e w1 ⟨a1, c1, rfl, hdat, hbe1⟩
  go_wp2_with fail
  refine (HS a1 c1 w1 hdat).mono ?_
  rintro e w2 ⟨rfl, hbe2⟩
  have hdat2 := (hdat.below hbe2).mono_to hbe2.size
  go_wp2_with fail
  refine (HN a1 c1 w2 hdat2).mono ?_
  rintro e w3 ⟨rfl, hbe3⟩
  go_wp2
  go_ret
  exact ⟨rfl, hbe1.trans ((hbe2.trans (hbe3.mono hbe2.size)).mono hbe1.size)⟩

set_option maxHeartbeats 400000 in
theorem sm_7 (zs : List Int) (a : Option Addr) (cap k i : Nat) (f : Bool) (size : Int) (n : Int) (w : World) (hd : Dat w w.heap.size zs a) (hk : k ≤ zs.length) (hl : zs.length ≤ 1048576) (hs1 : 1 ≤ size) (hs2 : size ≤ 64)
    (HS : Ans21 zs k f size 0 i true) (HN : Ans10 zs k f true n i false) (h63 : decide (n ≤ 9223372036854775808) = false) :
    Calls Try.prog 6 #[.slice a zs.length cap, .int .i64 (k : Int), .bool f, .int .i64 size] w fun e w' => e = .returned (.bool true) ∧ Below w.heap.size w w' := by
  have h20 : decide ((1048576 : Int) < (zs.length : Int)) = false := by simp; omega
  have hk0 : decide ((k : Int) < 0) = false := by simp
  have hk1 : decide ((zs.length : Int) < (k : Int)) = false := by simp; omega
  have hd1 : decide (size < 1) = false := by simp; omega
  have hd2 : decide (64 < size) = false := by simp; omega
  go_enter Try.func6, Try.ntmps6
  go_wp2_with (go_at_call 20; refine (size20 _ _ _ _ _ _ _ (by omega)).mono ?_; rintro e w' ⟨rfl, rfl⟩)
  refine (copy_any a zs cap _ hd (by omega)).mono ?_
  rintro e w1 ⟨a1, c1, rfl, hdat, hbe1⟩
  go_wp2_with fail
  refine (HS a1 c1 w1 hdat).mono ?_
  rintro e w2 ⟨rfl, hbe2⟩
  have hdat2 := (hdat.below hbe2).mono_to hbe2.size
  go_wp2_with fail
  refine (HN a1 c1 w2 hdat2).mono ?_
  rintro e w3 ⟨rfl, hbe3⟩
  go_wp2
  go_ret
  exact ⟨rfl, hbe1.trans ((hbe2.trans (hbe3.mono hbe2.size)).mono hbe1.size)⟩

end Go.Proofs.Qxb6603827a
