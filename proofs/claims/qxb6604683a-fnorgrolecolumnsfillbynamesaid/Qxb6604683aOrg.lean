import Derived.Test.Qxb6604683aCols
import Derived.Test.Qxb6604683aOrgAt
import Derived.Test.Qxb6604683aSize10
import Derived.Deep.CutBlock
import Derived.Deep.RegionWith
import Derived.Deep.DeepCutAuto
namespace Go.Proofs.Qxb6604683a
open Go.RowKit

theorem sum_take_succ {l : List Nat} {i x : Nat} (h : l[i]? = some x) : (l.take (i + 1)).sum = (l.take i).sum + x := by
  obtain ⟨hk, rfl⟩ := List.getElem?_eq_some_iff.1 h
  rw [List.take_succ_eq_append_getElem hk, List.sum_append, List.sum_singleton]

theorem sum_take_le (l : List Nat) (i : Nat) : (l.take i).sum ≤ l.sum := by
  have h := congrArg List.sum (List.take_append_drop i l)
  rw [List.sum_append] at h
  omega

/-- The lengths lie at block b. -/
def Lens (w : World) (b : Nat) (l : List Nat) : Prop := ∀ (i x : Nat), l[i]? = some x → w.cell? ⟨b, i, none⟩ = some (.int .i64 (x : Int))

theorem Lens.new (w : World) (T : TypeId) (a b c d e f g h i j : Nat) :
    Lens (w.alloc (.cells #[.int .i64 (a : Int), .int .i64 (b : Int), .int .i64 (c : Int), .int .i64 (d : Int), .int .i64 (e : Int), .int .i64 (f : Int), .int .i64 (g : Int), .int .i64 (h : Int), .int .i64 (i : Int), .int .i64 (j : Int)] T)) w.heap.size [a, b, c, d, e, f, g, h, i, j] := by
  intro k x hk
  rw [World.cell?_alloc_at _ _ _ _ rfl]
  have hk10 : k < 10 := (List.getElem?_eq_some_iff.1 hk).1
  match k, hk10, hk with
  | 0, _, hk | 1, _, hk | 2, _, hk | 3, _, hk | 4, _, hk | 5, _, hk | 6, _, hk | 7, _, hk | 8, _, hk | 9, _, hk =>
    simp at hk
    subst hk
    rfl

set_option maxRecDepth 100000 in
set_option maxHeartbeats 1000000 in
theorem org_main (s0 s1 s2 s3 s4 s5 s6 s7 s8 s9 : ByteArray) (w : World) (h : s0.size + s1.size + s2.size + s3.size + s4.size + s5.size + s6.size + s7.size + s8.size + s9.size ≤ 1048576) :
    Calls Try.prog 4 #[.string s0, .string s1, .string s2, .string s3, .string s4, .string s5, .string s6, .string s7, .string s8, .string s9] w fun e w' => e = .returned (.bool true) ∧ Below w.heap.size w w' := by
  obtain ⟨L, hL⟩ : ∃ L, [s0.size, s1.size, s2.size, s3.size, s4.size, s5.size, s6.size, s7.size, s8.size, s9.size] = L := ⟨_, rfl⟩
  have hsum : L.sum ≤ 1048576 := by rw [← hL]; simp; omega
  have hlen : L.length = 10 := by rw [← hL]; rfl
  have HL : Hid ([s0.size, s1.size, s2.size, s3.size, s4.size, s5.size, s6.size, s7.size, s8.size, s9.size] = L ∧ L.length = 10) := ⟨hL, hlen⟩
  clear hL hlen
  go_enter Try.func4, Try.ntmps4
  go_upto_region 4 with (go_at_call 10; refine (size10_yes _ _ _ _ _ _ _ _ _ _ _ h).mono ?_; rintro e w' ⟨rfl, rfl⟩)
  go_cut [22] (fun s22 wx => s22 = .int .i64 0 ∧ Lens wx w.heap.size L ∧ Below w.heap.size w wx ∧ wx.heap.size = w.heap.size + 1)
  case first =>
    go_wp2
    go_meet
    case rel => exact ⟨rfl, by rw [← HL.out.1]; exact Lens.new _ _ _ _ _ _ _ _ _ _ _ _, (Below.refl _ _).alloc (Nat.le_refl _) _, by simp⟩
  case rest =>
    obtain ⟨rfl, hlen, hbe, hsz⟩ := hcut
    obtain ⟨w1, rfl⟩ : ∃ x : World, x = wc := ⟨_, rfl⟩
    have HZ : Hid (w1.heap.size = w.heap.size + 1) := hsz
    clear hsz
    go_upto_block 0 with fail
    go_cut [22] (fun s22 wx => (∃ t : Nat, s22 = .int .i64 (t : Int) ∧ t ≤ 1048576) ∧ w1 = wx)
    case first =>
      go_wp2_with fail
      go_loopg [22, 23] 10 (fun g s22 s23 wr => ∃ i t : Nat, g = 10 - i ∧ i ≤ 10 ∧ s23 = .int .i64 (i : Int) ∧ s22 = .int .i64 (t : Int) ∧ t = (L.take i).sum ∧ w1 = wr)
      case atStart => exact ⟨0, 0, rfl, by omega, rfl, rfl, rfl, rfl⟩
      case round =>
        obtain ⟨i, t, hg, hi, rfl, rfl, ht, rfl⟩ := hrel
        have HS : Hid (gk = 10 - i ∧ t = (L.take i).sum) := ⟨hg, ht⟩
        have htl : t ≤ 1048576 := by rw [ht]; exact Nat.le_trans (sum_take_le L i) hsum
        clear hg ht
        by_cases hlt : i < 10
        · obtain ⟨x, hx⟩ : ∃ x, L[i]? = some x := ⟨_, List.getElem?_eq_getElem (by rw [HL.out.2]; exact hlt)⟩
          have hcell := hlen i x hx
          have hst := sum_take_succ hx
          have hsl := sum_take_le L (i + 1)
          have hxl : t + x ≤ 1048576 := by rw [HS.out.2]; omega
          have HT : Hid ((L.take (i + 1)).sum = t + x) := by rw [hst, ← HS.out.2]; rfl
          have hlt' : (i : Int) < 10 := by omega
          clear hst hsl hx
          go_wp2
          go_roundg (10 - (i + 1))
          case measure => rw [HS.out.1]; omega
          case rel => exact ⟨i + 1, t + x, rfl, by omega, by go_num, by go_num, HT.out.symm, rfl⟩
        · obtain rfl : i = 10 := by omega
          go_wp2
          go_meet
          case rel => exact ⟨⟨t, rfl, htl⟩, rfl⟩
    case rest =>
      obtain ⟨⟨t, rfl, htl⟩, rfl⟩ := hcut
      go_wp2_with fail
      refine (cols11 w1.heap.size _).mono ?_
      rintro e w2 ⟨rfl, hc, hb2, hz2⟩
      have hz3 : w2.heap.size = w1.heap.size + 2 := by rw [hz2]; simp
      have HZ2 : Hid (w2.heap.size = w1.heap.size + 2) := hz3
      have HC : Hid (Cols w2 (w1.heap.size + 1) w1.heap.size) := by have := hc; simp at this; exact this
      clear hz2 hc hlen hsum h htl
      go_upto_region 19 with fail
      go_cut [28] (fun s28 wx => s28 = .int .i64 0 ∧ OrgAt w wx w.heap.size w1.heap.size 0 (pick5 s0 s1 s2 s3 s4) (pick5 s5 s6 s7 s8 s9))
      case first =>
        go_wp2
        go_meet
        case rel => exact ⟨rfl, OrgAt.start _ _ _ _ _ _ _ _ _ _ hbe rfl hbe.size _ _ _ (by simpa using hb2) HZ2.out HC.out⟩
      case rest =>
        obtain ⟨rfl, hO⟩ := hcut
        clear hz3 hb2 hbe HZ HZ2 HC HL
        obtain ⟨w3, rfl⟩ : ∃ x : World, x = wc := ⟨_, rfl⟩
        obtain ⟨od, hod⟩ : ∃ f, pick5 s0 s1 s2 s3 s4 = f := ⟨_, rfl⟩
        obtain ⟨nw, hnw⟩ : ∃ f, pick5 s5 s6 s7 s8 s9 = f := ⟨_, rfl⟩
        rw [hod, hnw] at hO
        have HN : Hid (pick5 s5 s6 s7 s8 s9 = nw) := hnw
        clear hod hnw
        go_wp2_with fail
        go_loopg [28] 5 (fun g s28 wr => ∃ k : Nat, g = 5 - k ∧ k ≤ 5 ∧ s28 = .int .i64 (k : Int) ∧ OrgAt w wr w.heap.size w1.heap.size k od nw)
        case atStart => exact ⟨0, rfl, by omega, rfl, hO⟩
        case round =>
          obtain ⟨k, hg, hk, rfl, hOk⟩ := hrel
          have HG : Hid (gk = 5 - k) := hg
          clear hg hO
          obtain ⟨wo, rfl⟩ : ∃ x : World, x = wr := ⟨_, rfl⟩
          by_cases hlt : k < 5
          · have hlt' : (k : Int) < 5 := by omega
            go_upto_block 4 with fail
            go_cut [29] (fun s29 wx => s29 = .int .i64 (fK k : Int) ∧ OrgAt w wx w.heap.size w1.heap.size k od nw)
            case first =>
              go_wp2_with fail
              go_loopg [29, 30] 5 (fun g s29 s30 wr => ∃ j : Nat, g = 5 - j ∧ j ≤ 5 ∧ s30 = .int .i64 (j : Int) ∧ s29 = .int .i64 (foundAt k j) ∧ OrgAt w wr w.heap.size w1.heap.size k od nw)
              case atStart => exact ⟨0, rfl, by omega, rfl, by simp [foundAt], hOk⟩
              case round =>
                obtain ⟨j, hg, hj, rfl, rfl, hOj⟩ := hrel
                have HJ : Hid (gk = 5 - j) := hg
                clear hg hOk
                obtain ⟨wi, rfl⟩ : ∃ x : World, x = wr := ⟨_, rfl⟩
                by_cases hjl : j < 5
                · have hjl' : (j : Int) < 5 := by omega
                  have c1 := (hOj.cols j hjl).1
                  have c2 := (hOj.cols j hjl).2
                  have c3 := hOj.keys k hlt
                  have z3 := hOj.size
                  have z2 : w1.heap.size + 2 < wi.heap.size := by omega
                  have z1 : w1.heap.size + 1 < wi.heap.size := by omega
                  go_upto_region 26 with fail
                  go_cut [118] (fun s118 wx => s118 = .bool (decide (j = fK k)) ∧ OrgAt w wx w.heap.size w1.heap.size k od nw)
                  case first =>
                    go_region_with (go_at_call 12; refine (name12 _ _ _).mono ?_; rintro e w' ⟨rfl, rfl⟩)
                    all_goals (go_wp2_with fail; go_meet)
                    all_goals exact ⟨congrArg Value.bool (name_beq k j hlt hjl), (hOj.alloc _).drew⟩
                  case rest =>
                    obtain ⟨rfl, hOc⟩ := hcut
                    clear c1 c2 c3 z1 z2 z3 hOj
                    by_cases hit : j = fK k
                    · have hd : decide (j = fK k) = true := decide_eq_true hit
                      have e1 : foundAt k j = -1 := by rw [hit]; exact (foundAt_hit k).1
                      have HE : Hid (foundAt k (j + 1) = (j : Int)) := by rw [hit]; exact (foundAt_hit k).2
                      rw [hd, e1]
                      clear hd e1 hit
                      go_wp2
                      go_roundg (5 - (j + 1))
                      case measure => rw [HJ.out]; omega
                      case rel => exact ⟨j + 1, rfl, by omega, by go_num, by rw [HE.out], hOc⟩
                    · have hd : decide (j = fK k) = false := decide_eq_false hit
                      have HE : Hid (foundAt k (j + 1) = foundAt k j) := foundAt_miss hit
                      rw [hd]
                      clear hd hit
                      go_wp2
                      go_roundg (5 - (j + 1))
                      case measure => rw [HJ.out]; omega
                      case rel => exact ⟨j + 1, rfl, by omega, by go_num, by rw [HE.out], hOc⟩
                · obtain rfl : j = 5 := by omega
                  go_wp2
                  go_meet
                  case rel => exact ⟨by rw [foundAt_end], hOj⟩
            case rest =>
              obtain ⟨rfl, hOc⟩ := hcut
              clear hOk
              obtain ⟨wi, rfl⟩ : ∃ x : World, x = wc := ⟨_, rfl⟩
              have hf := fK_lt k
              have c1 := (hOc.cols (fK k) hf).1
              have c2 := (hOc.cols (fK k) hf).2
              have c3 := hOc.vals k hlt
              have c4 := hOc.row (fK k) hf
              have c5 := hOc.free (fK k) hf
              have z3 := hOc.size
              have z0 : w1.heap.size < wi.heap.size := by omega
              obtain ⟨x, hx⟩ : ∃ x, fK k = x := ⟨_, rfl⟩
              have HX : Hid (fK k = x) := hx
              rw [hx] at hf c1 c2 c3 c4 c5
              rw [hx]
              clear hx
              go_wp2_with (go_at_call 13; refine (dst13 _ _ _).mono ?_; rintro e w' ⟨rfl, rfl⟩)
              go_roundg (5 - (k + 1))
              case measure => rw [HG.out]; omega
              case rel =>
                refine ⟨k + 1, rfl, by omega, by go_num, ?_⟩
                have hfill := hOc.fill
                rw [HX.out] at hfill
                exact hfill.alloc _
          · obtain rfl : k = 5 := by omega
            have r : ∀ i, i < 5 → wo.cell? ⟨w1.heap.size, i, none⟩ = some (.string (nw i)) := fun i hi => by rw [hOk.row i hi, rowS_five _ _ _ hi]
            have r0 : wo.cell? ⟨w1.heap.size, 0, none⟩ = some (.string s5) := by rw [r 0 (by omega), ← HN.out]; rfl
            have r1 : wo.cell? ⟨w1.heap.size, 1, none⟩ = some (.string s6) := by rw [r 1 (by omega), ← HN.out]; rfl
            have r2 : wo.cell? ⟨w1.heap.size, 2, none⟩ = some (.string s7) := by rw [r 2 (by omega), ← HN.out]; rfl
            have r3 : wo.cell? ⟨w1.heap.size, 3, none⟩ = some (.string s8) := by rw [r 3 (by omega), ← HN.out]; rfl
            have r4 : wo.cell? ⟨w1.heap.size, 4, none⟩ = some (.string s9) := by rw [r 4 (by omega), ← HN.out]; rfl
            have z3 := hOk.size
            have z0 : w1.heap.size < wo.heap.size := by omega
            clear r
            go_wp2
            go_quiet (fail)
            go_wp2
            go_ret
            exact ⟨rfl, below_drewN (hOk.below.alloc (by have := hOk.below.size; omega) _) _⟩
end Go.Proofs.Qxb6604683a
