import Derived.Test.Qxb6603827aModel
namespace Go.Proofs.Qxb6603827a
open Go.RowKit

theorem idx_const (j : Nat) (m : Int) (h : maxDigits[j]? = some m) (W : World) :
    (Instr.index 9 (.string ⟨#[49, 56, 52, 52, 54, 55, 52, 52, 48, 55, 51, 55, 48, 57, 53, 53, 49, 54, 49, 53]⟩) (.int .i64 (j : Int))).run Try.prog W = .ok (.int .u8 m) W := by
  have hj : j < 20 := (List.getElem?_eq_some_iff.1 h).1
  match j, hj, h with
  | 0, _, h | 1, _, h | 2, _, h | 3, _, h | 4, _, h | 5, _, h | 6, _, h | 7, _, h | 8, _, h | 9, _, h | 10, _, h | 11, _, h | 12, _, h | 13, _, h | 14, _, h | 15, _, h | 16, _, h | 17, _, h | 18, _, h | 19, _, h =>
    simp [maxDigits] at h
    subst h
    rfl

theorem aboveL_drop_eq {d : List Int} {j : Nat} {c m : Int} (hc : d[j]? = some c) (hm : maxDigits[j]? = some m) (e : c = m) : aboveL (d.drop j) (maxDigits.drop j) = aboveL (d.drop (j + 1)) (maxDigits.drop (j + 1)) := by
  rw [drop_cons hc, drop_cons hm]
  simp [aboveL, e]

theorem aboveL_drop_ne {d : List Int} {j : Nat} {c m : Int} (hc : d[j]? = some c) (hm : maxDigits[j]? = some m) (e : ¬ c = m) : aboveL (d.drop j) (maxDigits.drop j) = decide (m < c) := by
  rw [drop_cons hc, drop_cons hm]
  simp [aboveL, e]

set_option maxHeartbeats 400000 in
theorem above13 (ds : List Int) (a : Option Addr) (cap B : Nat) (w : World) (hd : Dat w B ds a) (hl : ds.length = 20) (r : Bool) (hr : aboveL ds maxDigits = r) :
    Calls Try.prog 13 #[.slice a 20 cap] w fun e w' => e = .returned (.bool r) ∧ ∃ n, w' = w.drewN n := by
  have HL : Hid (ds.length = 20) := hl
  have HR : Hid (aboveL ds maxDigits = r) := hr
  clear hl hr
  go_enter Try.func13, Try.ntmps13
  go_wp2
  go_loopg [2, 3] 20 (fun g s2 s3 wr => ∃ j : Nat, j ≤ 20 ∧ g = 20 - j ∧ s3 = .int .i64 (j : Int) ∧ aboveL (ds.drop j) (maxDigits.drop j) = aboveL ds maxDigits ∧ ∃ n, wr = w.drewN n)
  case atStart => exact ⟨0, by omega, rfl, rfl, rfl, 0, rfl⟩
  case round =>
    obtain ⟨j, hj, hg, rfl, ha, q, hwr⟩ := hrel
    subst hwr
    have HS : Hid (gk = 20 - j ∧ aboveL (ds.drop j) (maxDigits.drop j) = aboveL ds maxDigits) := ⟨hg, ha⟩
    clear hg ha
    by_cases hlt : j < 20
    · obtain ⟨c, hc⟩ : ∃ c, ds[j]? = some c := ⟨_, List.getElem?_eq_getElem (by rw [HL.out]; exact hlt)⟩
      obtain ⟨m, hm⟩ : ∃ m, maxDigits[j]? = some m := ⟨_, List.getElem?_eq_getElem (show j < maxDigits.length by exact hlt)⟩
      obtain ⟨b, off, rfl, hbb, hcell, hc0, hc1⟩ := hd j c hc
      have hidx := idx_const j m hm
      have HC : Hid (ds[j]? = some c ∧ maxDigits[j]? = some m) := ⟨hc, hm⟩
      clear hc hm
      have hlt' : (j : Int) < 20 := by omega
      by_cases hcm : c = m
      · have hne : (c != m) = false := by simp [hcm]
        have HE : Hid (c = m) := hcm
        clear hcm
        go_wp2
        go_quiet (fail)
        go_wp2
        go_roundg (20 - (j + 1))
        case measure => rw [HS.out.1]; omega
        case rel => exact ⟨j + 1, by omega, rfl, by go_num, by rw [← aboveL_drop_eq HC.out.1 HC.out.2 HE.out]; exact HS.out.2, q + nq, rfl⟩
      · have hne : (c != m) = true := by simp [hcm]
        have HE : Hid (¬ c = m) := hcm
        clear hcm
        go_wp2
        go_quiet (fail)
        go_wp2
        go_quiet (fail)
        go_wp2
        go_ret
        have e : decide (m < c) = r := by rw [← HR.out, ← HS.out.2, aboveL_drop_ne HC.out.1 HC.out.2 HE.out]
        exact ⟨by rw [← e]; rfl, _, by rw [World.drewN_drewN, World.drewN_drewN]⟩
    · obtain rfl : j = 20 := by omega
      go_wp2
      go_ret
      have e : r = false := by rw [← HR.out, ← HS.out.2, List.drop_eq_nil_of_le (by rw [HL.out]; omega)]; rfl
      exact ⟨by rw [e]; rfl, _, rfl⟩

theorem val_snoc {g : List Int} {j : Nat} {c : Int} (h : g[j]? = some c) : valFrom 0 (g.take (j + 1)) = valFrom 0 (g.take j) * 10 + (c - 48) := by
  rw [take_snocI h, valFrom_append]; rfl

set_option maxHeartbeats 400000 in
theorem decis14 (n : Int) (g : List Int) (a : Option Addr) (len cap B : Nat) (w : World) (hlen : g.length = len) (hd : Dat w B g a) (hg : Digs g) (hl : len ≤ 1099511627776) (hn : n = valFrom 0 g) (hm : n ≤ 18446744073709551615) :
    Calls Try.prog 14 #[.int .u64 n, .slice a len cap] w fun e w' => e = .returned (.bool true) ∧ w' = w := by
  have HL : Hid (g.length = len) := hlen
  have HG : Hid (Digs g) := hg
  have h0 : 0 ≤ n := by rw [hn]; exact (valFrom_bounds g hg).1
  have HN : Hid (n = valFrom 0 g) := hn
  clear hlen hg hn
  go_enter Try.func14, Try.ntmps14
  go_wp2
  go_loopg [0, 4, 5] (len + 1) (fun k s0 s4 s5 wr => ∃ (j : Nat) (q : Int), j ≤ len ∧ k = j + 1 ∧ s0 = .int .u64 q ∧ s5 = .int .i64 ((j : Int) - 1) ∧ q = valFrom 0 (g.take j) ∧ 0 ≤ q ∧ q ≤ 18446744073709551615 ∧ wr = w)
  case atStart => exact ⟨len, n, Nat.le_refl _, rfl, rfl, rfl, by rw [← HL.out, List.take_length]; exact HN.out, h0, hm, rfl⟩
  case round =>
    obtain ⟨j, q, hj, hk, rfl, rfl, hq, hq0, hq1, hwr⟩ := hrel
    subst hwr
    have HS : Hid (gk = j + 1 ∧ q = valFrom 0 (g.take j)) := ⟨hk, hq⟩
    clear hk hq
    by_cases hlt : 0 < j
    · obtain ⟨i, rfl⟩ : ∃ i, j = i + 1 := ⟨j - 1, by omega⟩
      obtain ⟨c, hc⟩ : ∃ c, g[i]? = some c := ⟨_, List.getElem?_eq_getElem (by rw [HL.out]; omega)⟩
      obtain ⟨b, off, rfl, hbb, hcell, hc0, hc1⟩ := hd i c hc
      have hdig := HG.out c (List.mem_of_getElem? hc)
      have hq2 := HS.out.2
      rw [val_snoc hc] at hq2
      have hmod : q % 10 = c - 48 := by omega
      have HD : Hid (q / 10 = valFrom 0 (g.take i)) := by
        have : q / 10 = valFrom 0 (g.take i) := by omega
        exact this
      have hne : (q % 10 != c - 48) = false := by simp [hmod]
      clear hmod hc hq2
      obtain ⟨h48, h57⟩ := hdig
      go_wp2
      go_roundg (i + 1)
      case measure => rw [HS.out.1]; omega
      case rel => exact ⟨i, q / 10, by omega, rfl, rfl, rfl, HD.out, by omega, by omega, rfl⟩
    · obtain rfl : j = 0 := by omega
      have hq2 : q = 0 := by rw [HS.out.2]; rfl
      subst hq2
      go_wp2
      go_ret
      exact ⟨rfl, rfl⟩
end Go.Proofs.Qxb6603827a
