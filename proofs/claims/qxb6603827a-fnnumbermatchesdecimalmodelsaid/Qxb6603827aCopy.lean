import Derived.Test.Qxb6603827aSpace
import Derived.Test.Qxb6603827aBuf
import Derived.Test.Qxb6603827aNum
namespace Go.Proofs.Qxb6603827a
open Go.RowKit

theorem make_full_buf (n : Nat) (h : n ≤ 1099511627776) (w : World) :
    (Instr.makeSlice 22 (.int .i64 (n : Int)) (.int .i64 (n : Int))).run Try.prog w = .ok (.slice (some ⟨w.heap.size, 0, none⟩) n n) (w.alloc (.cells (madeCells #[.int .u8 0] n) 5)) := by
  obtain ⟨i, hi, hz0, hz1, hz2⟩ := info_parts info5
  have hr := run_make (P := Try.prog) w 22 5 i (.int .u8 0) Try.underlying22 hi hz0 .i64 .i64 n n (by omega) (by omega) (by rw [hz2]; omega) (by omega)
  rw [hz1] at hr
  simpa [Value.cells] using hr

theorem Buf.put {w : World} {db cap k : Nat} {zs : List Int} (h : Buf w db cap zs) (hk : zs.length = k) (hc : k < cap) (c : Int) : Buf (w.setCell ⟨db, k, none⟩ (.int .u8 c)) db cap (zs ++ [c]) := by
  subst hk
  exact h.append [c] (by simp; omega)

theorem Dat.a_some {w : World} {B : Nat} {zs : List Int} {a : Option Addr} (h : Dat w B zs a) : a = none → zs = [] := by
  intro ha
  cases zs with
  | nil => rfl
  | cons c cs => obtain ⟨b, off, e, _⟩ := h 0 c rfl; rw [ha] at e; cases e

theorem Buf.whole {w : World} {db cap : Nat} {zs : List Int} (h : Buf w db cap zs) (hz : ∀ c ∈ zs, 0 ≤ c ∧ c ≤ 255) : Dat w w.heap.size zs (some ⟨db, 0, none⟩) := by
  intro k c hc
  have := hz c (List.mem_of_getElem? hc)
  exact ⟨db, 0, rfl, h.sz, by simpa using h.cells k c hc, this.1, this.2⟩

theorem Dat.bytes {w : World} {B : Nat} {zs : List Int} {a : Option Addr} (h : Dat w B zs a) : ∀ c ∈ zs, 0 ≤ c ∧ c ≤ 255 := by
  intro c hc
  obtain ⟨k, hk⟩ := List.getElem?_of_mem hc
  obtain ⟨_, _, _, _, _, h0, h1⟩ := h k c hk
  exact ⟨h0, h1⟩

set_option maxHeartbeats 400000 in
theorem copy_nil (cap : Nat) (w : World) :
    Calls Try.prog 9 #[.slice none 0 cap] w fun e w' => e = .returned (.slice none 0 0) ∧ w' = w := by
  have q22 : ∀ (w : World) (a : Option Addr) (n c n' c' : Nat), (binOp .eql 22 (.slice a n c) (.slice none n' c')).run Try.prog w = .ok (.bool a.isNone) w := fun w a n c n' c' => Lib.run_eql_slice_nil w _ _ a n c n' c' Try.underlying22
  go_enter Try.func9, Try.ntmps9
  go_wp2
  go_ret
  exact ⟨rfl, rfl⟩

theorem take_snocI {zs : List Int} {k : Nat} {b : Int} (h : zs[k]? = some b) : zs.take (k + 1) = zs.take k ++ [b] := by
  obtain ⟨hk, rfl⟩ := List.getElem?_eq_some_iff.1 h
  exact List.take_succ_eq_append_getElem hk

set_option maxHeartbeats 400000 in
theorem copy_some (x : Addr) (zs : List Int) (cap : Nat) (w : World) (hd : Dat w w.heap.size zs (some x)) (hl : zs.length ≤ 1099511627776) :
    Calls Try.prog 9 #[.slice (some x) zs.length cap] w fun e w' => e = .returned (.slice (some ⟨w.heap.size, 0, none⟩) zs.length zs.length) ∧ Buf w' w.heap.size zs.length zs ∧ Below w.heap.size w w' := by
  have q22 : ∀ (w : World) (a : Option Addr) (n c n' c' : Nat), (binOp .eql 22 (.slice a n c) (.slice none n' c')).run Try.prog w = .ok (.bool a.isNone) w := fun w a n c n' c' => Lib.run_eql_slice_nil w _ _ a n c n' c' Try.underlying22
  have hmk := make_full_buf zs.length hl
  go_enter Try.func9, Try.ntmps9
  go_wp2
  go_loopg [4] zs.length (fun m s4 wr => ∃ k : Nat, m = zs.length - k ∧ s4 = .int .i64 (k : Int) ∧ k ≤ zs.length ∧ Buf wr w.heap.size zs.length (zs.take k) ∧ Below w.heap.size w wr)
  case atStart => exact ⟨0, rfl, rfl, by omega, Buf.made _ _, (Below.refl _ _).alloc (Nat.le_refl _) _⟩
  case round =>
    obtain ⟨k, hm, rfl, hk, hbuf, hbe⟩ := hrel
    have HM : Hid (gk = zs.length - k) := hm
    clear hm
    by_cases hlt : k < zs.length
    · obtain ⟨c, hc⟩ : ∃ c, zs[k]? = some c := ⟨_, List.getElem?_eq_getElem hlt⟩
      obtain ⟨b, off, hx, hbb, hcell, hc0, hc1⟩ := hd.below hbe k c hc
      obtain rfl := Option.some.inj hx
      have HC : Hid (zs[k]? = some c) := hc
      clear hc hx
      have hlt' : (k : Int) < (zs.length : Int) := by omega
      obtain ⟨u, hu⟩ := Option.isSome_iff_exists.1 (hbuf.there k hlt)
      have hfr := hbuf.free k hlt
      go_wp2
      go_roundg (zs.length - (k + 1))
      case measure => rw [HM.out]; omega
      case rel => exact ⟨k + 1, rfl, by go_num, by omega, by rw [take_snocI HC.out]; exact hbuf.put (by simp; omega) hlt c, hbe.setCell (by simp) _⟩
    · obtain rfl : k = zs.length := by omega
      go_wp2
      go_ret
      exact ⟨rfl, by simpa using hbuf, hbe⟩

theorem copy_any (a : Option Addr) (zs : List Int) (cap : Nat) (w : World) (hd : Dat w w.heap.size zs a) (hl : zs.length ≤ 1099511627776) :
    Calls Try.prog 9 #[.slice a zs.length cap] w fun e w' => ∃ a' c', e = .returned (.slice a' zs.length c') ∧ Dat w' w'.heap.size zs a' ∧ Below w.heap.size w w' := by
  cases a with
  | none =>
    obtain rfl := hd.a_some rfl
    refine (copy_nil cap w).mono ?_
    rintro e w' ⟨rfl, rfl⟩
    exact ⟨none, 0, rfl, hd, Below.refl _ _⟩
  | some x =>
    refine (copy_some x zs cap w hd hl).mono ?_
    rintro e w' ⟨rfl, hb, hbe⟩
    exact ⟨_, _, rfl, hb.whole hd.bytes, hbe⟩

set_option maxHeartbeats 400000 in
theorem digit_any (c : Int) (w : World) : Calls Try.prog 12 #[.int .u8 c] w fun e w' => e = .returned (.bool (isDig c)) ∧ w' = w := by
  by_cases h1 : 48 ≤ c
  · have e : isDig c = decide (c ≤ 57) := by simp [isDig, h1]
    rw [e]
    go_enter Try.func12, Try.ntmps12
    go_wp2
    go_ret
    exact ⟨rfl, rfl⟩
  · have h1' : decide (48 ≤ c) = false := by simpa using h1
    have e : isDig c = false := by simp [isDig, h1']
    rw [e]
    go_enter Try.func12, Try.ntmps12
    go_wp2
    go_ret
    exact ⟨rfl, rfl⟩

/-- What a slice with these bytes hands to an append. -/
theorem src_dat {w : World} {B : Nat} {zs : List Int} {a : Option Addr} (h : Dat w B zs a) (c n : Nat) (hn : zs.length = n) : Src Try.prog 1 22 (.slice a n c) zs.length (zs.map (Value.int .u8)) w := by
  subst hn
  cases a with
  | none => obtain rfl := h.a_some rfl; exact Src.ofNil _ Try.underlying22 c
  | some x =>
    refine Src.ofSlice _ Try.underlying22 x _ _ _ (by simp) ?_ (ints_oneCell _ _)
    intro j u hj
    rw [List.getElem?_map] at hj
    obtain ⟨d, hd, rfl⟩ := Option.map_eq_some_iff.1 hj
    obtain ⟨b, off, hx, _, hcell, _, _⟩ := h j d hd
    obtain rfl := Option.some.inj hx
    rw [Addr.add_lit]
    exact hcell
end Go.Proofs.Qxb6603827a
