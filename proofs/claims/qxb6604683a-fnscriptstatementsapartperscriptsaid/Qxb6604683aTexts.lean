import Derived.Test.Qxb6604683aStmt
namespace Go.Proofs.Qxb6604683a
open Go.RowKit

/-- The texts xs lie behind the address a, below block B. -/
def SDat (w : World) (B : Nat) (xs : List ByteArray) (a : Option Addr) : Prop :=
  ∀ k t, xs[k]? = some t → ∃ b off, a = some ⟨b, off, none⟩ ∧ b < B ∧ w.cell? ⟨b, off + k, none⟩ = some (.string t)

theorem SDat.below {w w' : World} {B : Nat} {xs : List ByteArray} {a : Option Addr} (h : SDat w B xs a) (hb : Below B w w') : SDat w' B xs a := by
  intro k t ht
  obtain ⟨b, off, e, hlt, hcell⟩ := h k t ht
  exact ⟨b, off, e, hlt, by rw [hb.cell (by exact hlt)]; exact hcell⟩

theorem SDat.mono {w : World} {B B' : Nat} {xs : List ByteArray} {a : Option Addr} (h : SDat w B xs a) (hB : B ≤ B') : SDat w B' xs a := by
  intro k t ht
  obtain ⟨b, off, e, hlt, hcell⟩ := h k t ht
  exact ⟨b, off, e, by omega, hcell⟩

theorem SDat.nil_of {w : World} {B : Nat} {xs : List ByteArray} {a : Option Addr} (h : SDat w B xs a) : a = none → xs = [] := by
  intro ha
  cases xs with
  | nil => rfl
  | cons c cs => obtain ⟨b, off, e, _⟩ := h 0 c rfl; rw [ha] at e; cases e

/-! ### The sizes: some answer, nothing written -/
set_option maxHeartbeats 400000 in
theorem bytes14 (a : Option Addr) (xs : List ByteArray) (cap : Nat) (w : World) (B : Nat) (hd : SDat w B xs a) (hm : xs.length ≤ maxLen) :
    Calls Try.prog 14 #[.slice a xs.length cap] w fun e w' => ∃ b, e = .returned (.bool b) ∧ w = w' := by
  unfold maxLen at hm
  go_enter Try.func14, Try.ntmps14
  go_wp2
  all_goals first | (go_ret; exact ⟨_, rfl, rfl⟩) | (go_ret; exact ⟨⟨_, rfl⟩, rfl⟩) | skip
  go_loopg [2, 3, 4] xs.length (fun g s2 s3 s4 wr => ∃ (k : Nat) (x : Int), g = xs.length - k ∧ k ≤ xs.length ∧ s4 = .int .i64 (k : Int) ∧ s3 = .int .i64 x ∧ w = wr)
  case atStart => exact ⟨0, _, rfl, by omega, rfl, rfl, rfl⟩
  case round =>
    obtain ⟨k, x, hg, hk, rfl, rfl, rfl⟩ := hrel
    have HG : Hid (gk = xs.length - k) := hg
    clear hg
    by_cases hlt : k < xs.length
    · obtain ⟨t, ht⟩ : ∃ t, xs[k]? = some t := ⟨_, List.getElem?_eq_getElem hlt⟩
      obtain ⟨b, off, rfl, hbb, hcell⟩ := hd k t ht
      have hlt' : (k : Int) < (xs.length : Int) := by omega
      clear ht
      go_wp2
      all_goals first
        | (go_ret; exact ⟨_, rfl, rfl⟩) | (go_ret; exact ⟨⟨_, rfl⟩, rfl⟩)
        | (go_roundg (xs.length - (k + 1)); (case measure => rw [HG.out]; omega); (case rel => exact ⟨k + 1, _, rfl, by omega, by go_num, rfl, rfl⟩))
    · obtain rfl : k = xs.length := by omega
      go_wp2
      go_ret
      exact ⟨_, rfl, rfl⟩

set_option maxHeartbeats 400000 in
theorem bytes15 (a : Option Addr) (xs : List ByteArray) (cap : Nat) (w : World) (B : Nat) (hd : SDat w B xs a) (hm : xs.length ≤ 65536) :
    Calls Try.prog 15 #[.slice a xs.length cap] w fun e w' => ∃ n : Int, e = .returned (.int .i64 n) ∧ w = w' := by
  go_enter Try.func15, Try.ntmps15
  go_wp2
  go_loopg [2, 3, 4] xs.length (fun g s2 s3 s4 wr => ∃ (k : Nat) (x : Int), g = xs.length - k ∧ k ≤ xs.length ∧ s4 = .int .i64 (k : Int) ∧ s3 = .int .i64 x ∧ w = wr)
  case atStart => exact ⟨0, _, rfl, by omega, rfl, rfl, rfl⟩
  case round =>
    obtain ⟨k, x, hg, hk, rfl, rfl, rfl⟩ := hrel
    have HG : Hid (gk = xs.length - k) := hg
    clear hg
    by_cases hlt : k < xs.length
    · obtain ⟨t, ht⟩ : ∃ t, xs[k]? = some t := ⟨_, List.getElem?_eq_getElem hlt⟩
      obtain ⟨b, off, rfl, hbb, hcell⟩ := hd k t ht
      have hlt' : (k : Int) < (xs.length : Int) := by omega
      clear ht
      by_cases hx : (1048576 : Int) < x
      · have hx' : decide ((1048576 : Int) < x) = true := decide_eq_true hx
        go_wp2
        go_ret
        exact ⟨_, rfl, rfl⟩
      · have hx' : decide ((1048576 : Int) < x) = false := decide_eq_false hx
        go_wp2
        all_goals first
          | (go_ret; exact ⟨_, rfl, rfl⟩) | (go_ret; exact ⟨⟨_, rfl⟩, rfl⟩)
          | (go_roundg (xs.length - (k + 1)); (case measure => rw [HG.out]; omega); (case rel => exact ⟨k + 1, _, rfl, by omega, by go_num, rfl, rfl⟩))
    · obtain rfl : k = xs.length := by omega
      go_wp2
      go_ret
      exact ⟨_, rfl, rfl⟩

/-! ### The copy -/
theorem info9 : (Try.prog.info? 9).map (fun i => (i.zero, i.size, i.bytes)) = some (some (.string ⟨#[]⟩), 1, 16) := by kernel_rfl

/-- A row of n cells at block g that the call made, the first of them the texts xs. -/
structure SRow (w : World) (g n : Nat) (xs : List ByteArray) : Prop where
  cells : ∀ (k : Nat) (t : ByteArray), xs[k]? = some t → w.cell? ⟨g, k, none⟩ = some (.string t)
  there : ∀ k, k < n → (w.cell? ⟨g, k, none⟩).isSome = true
  free : ∀ k, k < n → w.frozen? ⟨g, k, none⟩ = false
  sz : g < w.heap.size

theorem SRow.made (w : World) (n : Nat) (T : TypeId) : SRow (w.alloc (.cells (madeCells #[.string ⟨#[]⟩] n) T)) w.heap.size n [] := by
  refine ⟨fun k c hc => by simp at hc, fun k hk => ?_, fun k hk => by simp, by simp⟩
  rw [World.cell?_alloc_at _ _ _ _ rfl]
  simp [size_madeCells, hk]

theorem SRow.put {w : World} {g n k : Nat} {xs : List ByteArray} (h : SRow w g n xs) (hk : xs.length = k) (hn : k < n) (t : ByteArray) : SRow (w.setCell ⟨g, k, none⟩ (.string t)) g n (xs ++ [t]) := by
  obtain ⟨h1, h2, h3, h4⟩ := h
  obtain ⟨u, hu⟩ := Option.isSome_iff_exists.1 (h2 k hn)
  refine ⟨fun j c hc => ?_, fun j hj => ?_, fun j hj => by rw [World.frozen?_setCell]; exact h3 j hj, by simpa using h4⟩
  · by_cases e : j < xs.length
    · rw [World.cell?_setCell_other _ _ _ _ (by intro e2; injection e2; omega)]
      rw [List.getElem?_append_left e] at hc
      exact h1 j c hc
    · have hj := (List.getElem?_eq_some_iff.1 hc).1
      simp at hj
      obtain rfl : j = k := by omega
      rw [World.cell?_setCell_same _ _ _ hu]
      rw [List.getElem?_append_right (by omega)] at hc
      have : j - xs.length = 0 := by omega
      rw [this] at hc
      simp at hc
      rw [hc]
  · by_cases e : j = k
    · subst e; rw [World.cell?_setCell_same _ _ _ hu]; rfl
    · rw [World.cell?_setCell_other _ _ _ _ (by intro e2; injection e2; omega)]; exact h2 j hj

theorem SRow.dat {w : World} {g n : Nat} {xs : List ByteArray} (h : SRow w g n xs) : SDat w w.heap.size xs (some ⟨g, 0, none⟩) :=
  fun k t ht => ⟨g, 0, rfl, h.sz, by simpa using h.cells k t ht⟩

theorem make39 (n : Nat) (h : n ≤ 65536) (w : World) :
    (Instr.makeSlice 39 (.int .i64 (n : Int)) (.int .i64 (n : Int))).run Try.prog w = .ok (.slice (some ⟨w.heap.size, 0, none⟩) n n) (w.alloc (.cells (madeCells #[.string ⟨#[]⟩] n) 9)) := by
  obtain ⟨i, hi, hz0, hz1, hz2⟩ := info_parts info9
  have hr := run_make (P := Try.prog) w 39 9 i (.string ⟨#[]⟩) Try.underlying39 hi hz0 .i64 .i64 n n (by omega) (by omega) (by rw [hz2]; omega) (by omega)
  rw [hz1] at hr
  simpa [Value.cells] using hr

theorem take_snocB {xs : List ByteArray} {k : Nat} {b : ByteArray} (h : xs[k]? = some b) : xs.take (k + 1) = xs.take k ++ [b] := by
  obtain ⟨hk, rfl⟩ := List.getElem?_eq_some_iff.1 h
  exact List.take_succ_eq_append_getElem hk

set_option maxHeartbeats 400000 in
theorem clone_nil (cap : Nat) (w : World) : Calls Try.prog 16 #[.slice none 0 cap] w fun e w' => e = .returned (.slice none 0 0) ∧ w = w' := by
  have q39 : ∀ (w : World) (a : Option Addr) (n c n' c' : Nat), (binOp .eql 39 (.slice a n c) (.slice none n' c')).run Try.prog w = .ok (.bool a.isNone) w := fun w a n c n' c' => Lib.run_eql_slice_nil w _ _ a n c n' c' Try.underlying39
  go_enter Try.func16, Try.ntmps16
  go_wp2
  go_ret
  exact ⟨rfl, rfl⟩

set_option maxHeartbeats 400000 in
theorem clone_some (x : Addr) (xs : List ByteArray) (cap : Nat) (w : World) (hd : SDat w w.heap.size xs (some x)) (hl : xs.length ≤ 65536) :
    Calls Try.prog 16 #[.slice (some x) xs.length cap] w fun e w' => e = .returned (.slice (some ⟨w.heap.size, 0, none⟩) xs.length xs.length) ∧ SRow w' w.heap.size xs.length xs ∧ Below w.heap.size w w' := by
  have q39 : ∀ (w : World) (a : Option Addr) (n c n' c' : Nat), (binOp .eql 39 (.slice a n c) (.slice none n' c')).run Try.prog w = .ok (.bool a.isNone) w := fun w a n c n' c' => Lib.run_eql_slice_nil w _ _ a n c n' c' Try.underlying39
  have hmk := make39 xs.length hl
  go_enter Try.func16, Try.ntmps16
  go_wp2
  go_loopg [4] xs.length (fun m s4 wr => ∃ k : Nat, m = xs.length - k ∧ s4 = .int .i64 (k : Int) ∧ k ≤ xs.length ∧ SRow wr w.heap.size xs.length (xs.take k) ∧ Below w.heap.size w wr)
  case atStart => exact ⟨0, rfl, rfl, by omega, SRow.made _ _ _, (Below.refl _ _).alloc (Nat.le_refl _) _⟩
  case round =>
    obtain ⟨k, hm, rfl, hk, hbuf, hbe⟩ := hrel
    have HM : Hid (gk = xs.length - k) := hm
    clear hm
    by_cases hlt : k < xs.length
    · obtain ⟨c, hc⟩ : ∃ c, xs[k]? = some c := ⟨_, List.getElem?_eq_getElem hlt⟩
      obtain ⟨b, off, hx, hbb, hcell⟩ := hd.below hbe k c hc
      obtain rfl := Option.some.inj hx
      have HC : Hid (xs[k]? = some c) := hc
      clear hc hx
      have hlt' : (k : Int) < (xs.length : Int) := by omega
      obtain ⟨u, hu⟩ := Option.isSome_iff_exists.1 (hbuf.there k hlt)
      have hfr := hbuf.free k hlt
      go_wp2
      go_roundg (xs.length - (k + 1))
      case measure => rw [HM.out]; omega
      case rel => exact ⟨k + 1, rfl, by go_num, by omega, by rw [take_snocB HC.out]; exact hbuf.put (by simp; omega) hlt c, hbe.setCell (by simp) _⟩
    · obtain rfl : k = xs.length := by omega
      go_wp2
      go_ret
      exact ⟨rfl, by simpa using hbuf, hbe⟩

theorem clone16 (a : Option Addr) (xs : List ByteArray) (cap : Nat) (w : World) (hd : SDat w w.heap.size xs a) (hl : xs.length ≤ 65536) :
    Calls Try.prog 16 #[.slice a xs.length cap] w fun e w' => ∃ a', e = .returned (.slice a' xs.length xs.length) ∧ SDat w' w'.heap.size xs a' ∧ Below w.heap.size w w' := by
  cases a with
  | none =>
    obtain rfl := hd.nil_of rfl
    refine (clone_nil cap w).mono ?_
    rintro e w' ⟨rfl, rfl⟩
    exact ⟨none, rfl, hd, Below.refl _ _⟩
  | some x =>
    refine (clone_some x xs cap w hd hl).mono ?_
    rintro e w' ⟨rfl, hb, hbe⟩
    exact ⟨_, rfl, hb.dat, hbe⟩

/-! ### zzb1Holds -/
theorem Scr.drewN {w : World} {sb lo : Nat} {own : Option Nat} {ts : List ByteArray} (h : Scr w sb lo own ts) (n : Nat) : Scr (w.drewN n) sb lo own ts :=
  h.same rfl (fun _ _ => rfl) (Nat.le_refl _)

set_option maxHeartbeats 400000 in
theorem holds19 (w : World) (sb lo B : Nat) (own : Option Nat) (ts : List ByteArray) (a : Option Addr) (cap : Nat) (h : Scr w sb lo own ts) (hd : SDat w B ts a) (hlen : ts.length ≤ 65536) :
    Calls Try.prog 19 #[.pointer (some ⟨sb, 0, none⟩), .slice a ts.length cap] w fun e w' => e = .returned (.bool true) ∧ ∃ n, w' = w.drewN n := by
  go_enter Try.func19, Try.ntmps19
  go_wp2_with (go_at_call 25; refine (len25 _ _ _ _ _ h hlen).mono ?_; rintro e w' ⟨rfl, rfl⟩)
  go_loopg [4, 5] ts.length (fun g s4 s5 wr => ∃ k : Nat, g = ts.length - k ∧ k ≤ ts.length ∧ s5 = .int .i64 (k : Int) ∧ ∃ n, wr = w.drewN n)
  case atStart => exact ⟨0, rfl, by omega, rfl, 0, rfl⟩
  case round =>
    obtain ⟨k, hg, hk, rfl, q, hwr⟩ := hrel
    have HG : Hid (gk = ts.length - k) := hg
    clear hg
    subst hwr
    by_cases hlt : k < ts.length
    · obtain ⟨t, ht⟩ : ∃ t, ts[k]? = some t := ⟨_, List.getElem?_eq_getElem hlt⟩
      obtain ⟨b, off, rfl, hbb, hcell⟩ := hd k t ht
      have hlt' : (k : Int) < (ts.length : Int) := by omega
      have C := part26 (w.drewN q) sb lo own ts k t (h.drewN q) hlen ht
      have HC := C
      clear C ht
      go_wp2_with fail
      refine HC.mono ?_
      rintro e w' ⟨rfl, n, rfl⟩
      clear HC
      go_wp2
      go_roundg (ts.length - (k + 1))
      case measure => rw [HG.out]; omega
      case rel => exact ⟨k + 1, rfl, by omega, by go_num, q + n, rfl⟩
    · obtain rfl : k = ts.length := by omega
      go_wp2
      go_ret
      exact ⟨rfl, _, rfl⟩
end Go.Proofs.Qxb6604683a
