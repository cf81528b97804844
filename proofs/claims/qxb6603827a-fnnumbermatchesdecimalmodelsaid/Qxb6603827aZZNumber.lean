import Derived.Test.Qxb6603827aNumber
namespace Go.Proofs.Qxb6603827a
open Go.RowKit

theorem RdAt.new' (w : World) (v : Value) (k : Nat) (f : Bool) (T : TypeId) : RdAt (w.alloc (.cells #[v, .int .i64 (k : Int), .bool f] T)) w.heap.size v k f := by
  refine ⟨?_, ?_, ?_, ?_, ?_, ?_⟩ <;> simp

theorem Dat.new' {w : World} {zs : List Int} {a : Option Addr} (h : Dat w w.heap.size zs a) (o : Obj) : Dat (w.alloc o) w.heap.size zs a :=
  h.below ((Below.refl _ _).alloc (Nat.le_refl _) _)

theorem results_tmp4 {fn : Func} {t u v x : Tmp} (h : fn.results = #[.tmp t, .tmp u, .tmp v, .tmp x]) (tmps : Array Value) (P : Program) (w : World) :
    (results fn tmps).run P w = .ok (.tuple #[tmps.getD t undef, tmps.getD u undef, tmps.getD v undef, tmps.getD x undef]) w := by
  simp [results, h]

set_option maxHeartbeats 400000 in
theorem zznumber_of (a : Option Addr) (n cap k k' : Nat) (f b f' : Bool) (x : Int) (w : World)
    (H : Hid (Calls Try.prog 22 #[.pointer (some ⟨w.heap.size, 0, none⟩)] (w.alloc (.cells #[.slice a n cap, .int .i64 (k : Int), .bool f] 46)) fun e w' =>
      e = .returned (.tuple #[.bool b, .int .u64 x]) ∧ Below w.heap.size (w.alloc (.cells #[.slice a n cap, .int .i64 (k : Int), .bool f] 46)) w' ∧ RdAt w' w.heap.size (.slice a n cap) k' f')) :
    Calls Try.prog 10 #[.slice a n cap, .int .i64 (k : Int), .bool f] w fun e w' => e = .returned (.tuple #[.bool b, .int .u64 x, .int .i64 (k' : Int), .bool f']) ∧ Below w.heap.size w w' := by
  go_enter Try.func10, Try.ntmps10
  go_wp2_with fail
  refine (H.out).mono ?_
  rintro e w1 ⟨rfl, hb, hr⟩
  obtain ⟨c0, c1, c2, z1, z2, sz⟩ := hr
  go_wp2
  go_quiet (fail)
  go_wp2
  refine bodyPost_ret (results_tmp4 rfl _ _ _) rfl ?_
  exact ⟨rfl, below_drewN (((Below.refl _ _).alloc (Nat.le_refl _) _).trans hb) _⟩

theorem zznumber_any (zs : List Int) (a : Option Addr) (cap k : Nat) (w : World) (hd : Dat w w.heap.size zs a) (hk : k ≤ zs.length) (hl : zs.length ≤ 1099511627776)
    (m' : Bool) (n' : Int) (i' : Nat) (f' : Bool) (hR : number zs k = (m', n', i', f')) :
    Calls Try.prog 10 #[.slice a zs.length cap, .int .i64 (k : Int), .bool false] w fun e w' => e = .returned (.tuple #[.bool m', .int .u64 n', .int .i64 (i' : Int), .bool f']) ∧ Below w.heap.size w w' :=
  zznumber_of _ _ _ _ _ _ _ _ _ _ (number_any zs a cap w.heap.size k _ (RdAt.new' _ _ _ _ _) (hd.new' _) hk hl m' n' i' f' hR)

theorem zznumber_failed (zs : List Int) (a : Option Addr) (cap k : Nat) (w : World) (hd : Dat w w.heap.size zs a) (hk : k ≤ zs.length) (hl : zs.length ≤ 1099511627776) :
    Calls Try.prog 10 #[.slice a zs.length cap, .int .i64 (k : Int), .bool true] w fun e w' => e = .returned (.tuple #[.bool false, .int .u64 0, .int .i64 (skip zs k : Int), .bool true]) ∧ Below w.heap.size w w' :=
  zznumber_of _ _ _ _ _ _ _ _ _ _ (number_failed zs a cap w.heap.size k _ (RdAt.new' _ _ _ _ _) (hd.new' _) hk hl)
end Go.Proofs.Qxb6603827a
