import Derived.Test.Qxb6603827aBool
namespace Go.Proofs.Qxb6603827a
open Go.RowKit

/-- The new reader's block. -/
theorem RdAt.new (w : World) (v : Value) (k : Nat) (f : Bool) (T : TypeId) : RdAt (w.alloc (.cells #[v, .int .i64 (k : Int), .bool f] T)) w.heap.size v k f := by
  refine ⟨?_, ?_, ?_, ?_, ?_, ?_⟩ <;> simp

theorem Dat.new {w : World} {zs : List Int} {a : Option Addr} (h : Dat w w.heap.size zs a) (o : Obj) : Dat (w.alloc o) w.heap.size zs a :=
  h.below ((Below.refl _ _).alloc (Nat.le_refl _) _)

set_option maxHeartbeats 400000 in
theorem zzbool_of (a : Option Addr) (n cap k k' : Nat) (f b f' : Bool) (w : World)
    (H : Hid (Calls Try.prog 24 #[.pointer (some ⟨w.heap.size, 0, none⟩)] (w.alloc (.cells #[.slice a n cap, .int .i64 (k : Int), .bool f] 46)) fun e w' =>
      e = .returned (.bool b) ∧ Below w.heap.size (w.alloc (.cells #[.slice a n cap, .int .i64 (k : Int), .bool f] 46)) w' ∧ RdAt w' w.heap.size (.slice a n cap) k' f')) :
    Calls Try.prog 19 #[.slice a n cap, .int .i64 (k : Int), .bool f] w fun e w' => e = .returned (.tuple #[.bool b, .int .i64 (k' : Int), .bool f']) ∧ Below w.heap.size w w' := by
  go_enter Try.func19, Try.ntmps19
  go_wp2_with fail
  refine (H.out).mono ?_
  rintro e w1 ⟨rfl, hb, hr⟩
  obtain ⟨c0, c1, c2, z1, z2, sz⟩ := hr
  go_wp2
  go_quiet (fail)
  go_wp2
  go_ret3
  exact ⟨rfl, below_drewN (((Below.refl _ _).alloc (Nat.le_refl _) _).trans hb) _⟩

theorem zzbool_true (zs : List Int) (db off cap k p : Nat) (w : World) (hd : Dat w w.heap.size zs (some ⟨db, off, none⟩))
    (hk : k ≤ zs.length) (hl : zs.length < cap) (hc : cap ≤ 1099511627776) (hp : skip zs k = p) (h0 : zs[p]? = some 116) (h1 : zs[p + 1]? = some 114) (h2 : zs[p + 2]? = some 117) (h3 : zs[p + 3]? = some 101) :
    Calls Try.prog 19 #[.slice (some ⟨db, off, none⟩) zs.length cap, .int .i64 (k : Int), .bool false] w fun e w' => e = .returned (.tuple #[.bool true, .int .i64 ((p + 4 : Nat) : Int), .bool false]) ∧ Below w.heap.size w w' :=
  zzbool_of _ _ _ _ _ _ _ _ _ (bool_true zs db off cap w.heap.size k p _ (RdAt.new _ _ _ _ _) (hd.new _) hk hl hc hp h0 h1 h2 h3)

theorem zzbool_false (zs : List Int) (db off cap k p : Nat) (w : World) (hd : Dat w w.heap.size zs (some ⟨db, off, none⟩))
    (hk : k ≤ zs.length) (hl : zs.length < cap) (hc : cap ≤ 1099511627776) (hp : skip zs k = p) (h0 : zs[p]? = some 102) (h1 : zs[p + 1]? = some 97) (h2 : zs[p + 2]? = some 108) (h3 : zs[p + 3]? = some 115) (h4 : zs[p + 4]? = some 101) :
    Calls Try.prog 19 #[.slice (some ⟨db, off, none⟩) zs.length cap, .int .i64 (k : Int), .bool false] w fun e w' => e = .returned (.tuple #[.bool false, .int .i64 ((p + 5 : Nat) : Int), .bool false]) ∧ Below w.heap.size w w' :=
  zzbool_of _ _ _ _ _ _ _ _ _ (bool_false zs db off cap w.heap.size k p _ (RdAt.new _ _ _ _ _) (hd.new _) hk hl hc hp h0 h1 h2 h3 h4)

theorem zzbool_end (zs : List Int) (db off cap k : Nat) (w : World) (hd : Dat w w.heap.size zs (some ⟨db, off, none⟩))
    (hk : k = zs.length) (hl : zs.length < cap) (hc : cap ≤ 1099511627776) :
    Calls Try.prog 19 #[.slice (some ⟨db, off, none⟩) zs.length cap, .int .i64 (k : Int), .bool false] w fun e w' => e = .returned (.tuple #[.bool false, .int .i64 (zs.length : Int), .bool true]) ∧ Below w.heap.size w w' :=
  zzbool_of _ _ _ _ _ _ _ _ _ (bool_end zs db off cap w.heap.size k _ (RdAt.new _ _ _ _ _) (hd.new _) hk hl hc)
end Go.Proofs.Qxb6603827a
