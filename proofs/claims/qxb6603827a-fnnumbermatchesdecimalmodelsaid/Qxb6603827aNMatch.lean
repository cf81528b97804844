import Derived.Test.Qxb6603827aAbove
import Derived.Deep.CutBlock
import Derived.Deep.DeepCutAuto
namespace Go.Proofs.Qxb6603827a
open Go.RowKit

set_option maxHeartbeats 400000 in
theorem size8 (a : Option Addr) (l cap : Nat) (x : Int) (f : Bool) (w : World) (hl : l ≤ 1048576) : Calls Try.prog 8 #[.slice a l cap, .int .i64 x, .bool f] w fun e w' => e = .returned (.bool true) ∧ w = w' := by
  have h20 : decide ((1048576 : Int) < (l : Int)) = false := by simp; omega
  go_enter Try.func8, Try.ntmps8
  go_wp2
  go_ret
  exact ⟨rfl, rfl⟩

theorem Dat.to_size {w w' : World} {zs : List Int} {a : Option Addr} (h : Dat w w.heap.size zs a) (hb : Below w.heap.size w w') : Dat w' w'.heap.size zs a := by
  intro k c hc
  obtain ⟨b, off, e, hlt, r⟩ := (h.below hb) k c hc
  exact ⟨b, off, e, by have := hb.size; omega, r⟩

set_option maxRecDepth 100000 in
set_option maxHeartbeats 400000 in
theorem nm_failed (zs : List Int) (a : Option Addr) (cap k : Nat) (w : World) (hd : Dat w w.heap.size zs a) (hk : k ≤ zs.length) (hl : zs.length ≤ 1048576) :
    Calls Try.prog 3 #[.slice a zs.length cap, .int .i64 (k : Int), .bool true] w fun e w' => e = .returned (.bool true) ∧ Below w.heap.size w w' := by
  have h20 : decide ((1048576 : Int) < (zs.length : Int)) = false := by simp; omega
  have hk0 : decide ((k : Int) < 0) = false := by simp
  have hk1 : decide ((zs.length : Int) < (k : Int)) = false := by simp; omega
  go_enter Try.func3, Try.ntmps3
  go_wp2_with (go_at_call 8; refine (size8 _ _ _ _ _ _ (by omega)).mono ?_; rintro e w' ⟨rfl, rfl⟩)
  refine (copy_all a zs cap _ hd (by omega)).mono ?_
  rintro e w1 ⟨a1, rfl, hdat, hbe1⟩
  go_wp2_with fail
  refine (zznumber_failed zs a1 zs.length k w1 hdat hk (by omega)).mono ?_
  rintro e w2 ⟨rfl, hbe2⟩
  have hdat2 := hdat.to_size hbe2
  go_wp2_with fail
  refine (skip11 zs a1 zs.length k _ w2 hdat2 hk (by omega)).mono ?_
  rintro e w3 ⟨rfl, hw3⟩
  obtain rfl := hw3.symm
  go_wp2
  go_ret
  exact ⟨rfl, hbe1.trans (hbe2.mono hbe1.size)⟩

theorem sub_dat {w : World} {B b off z : Nat} {zs g : List Int} (h : Dat w B zs (some ⟨b, off, none⟩)) (hg : ∀ i c, g[i]? = some c → zs[z + i]? = some c) : Dat w B g (some ⟨b, off + z, none⟩) := by
  intro i c hc
  obtain ⟨b', o', e, hlt, hcell, r⟩ := h (z + i) c (hg i c hc)
  simp at e
  obtain ⟨rfl, rfl⟩ := e
  exact ⟨b, off + z, rfl, hlt, by rw [Nat.add_assoc]; exact hcell, r⟩

theorem sig_sub {zs : List Int} {s z i : Nat} {c : Int} (hz : s + nzero (zs.drop s) = z) (h : (sigOf (zs.drop s))[i]? = some c) : zs[z + i]? = some c := by
  rw [sig_at] at h
  split at h
  · rw [hz] at h; exact h
  · cases h

theorem sig_sub20 {zs : List Int} {s z i : Nat} {c : Int} (hz : s + nzero (zs.drop s) = z) (h : ((sigOf (zs.drop s)).take 20)[i]? = some c) : zs[z + i]? = some c := by
  rw [List.getElem?_take] at h
  split at h
  · exact sig_sub hz h
  · cases h

set_option maxRecDepth 100000 in
set_option maxHeartbeats 2000000 in
theorem nm_main (zs : List Int) (a : Option Addr) (cap k : Nat) (w : World) (hd : Dat w w.heap.size zs a) (hk : k ≤ zs.length) (hl : zs.length ≤ 1048576) :
    Calls Try.prog 3 #[.slice a zs.length cap, .int .i64 (k : Int), .bool false] w fun e w' => e = .returned (.bool true) ∧ Below w.heap.size w w' := by
  have h20 : decide ((1048576 : Int) < (zs.length : Int)) = false := by simp; omega
  have hk0 : decide ((k : Int) < 0) = false := by simp
  have hk1 : decide ((zs.length : Int) < (k : Int)) = false := by simp; omega
  obtain ⟨⟨m', n', i', f'⟩, hR⟩ : ∃ r, number zs k = r := ⟨_, rfl⟩
  have hp := skip_le hk
  have hs := numStart_le hp.2
  obtain ⟨p, ep⟩ : ∃ p, skip zs k = p := ⟨_, rfl⟩
  rw [ep] at hp hs
  obtain ⟨m, em⟩ : ∃ m, numMinus zs p = m := ⟨_, rfl⟩
  obtain ⟨s, es⟩ : ∃ s, numStart zs p = s := ⟨_, rfl⟩
  rw [es] at hs
  have HR : Hid (number zs k = (m', n', i', f')) := hR
  have HE : Hid (skip zs k = p ∧ numMinus zs p = m ∧ numStart zs p = s) := ⟨ep, em, es⟩
  clear hR ep em es
  go_enter Try.func3, Try.ntmps3
  go_wp2_with (go_at_call 8; refine (size8 _ _ _ _ _ _ (by omega)).mono ?_; rintro e w' ⟨rfl, rfl⟩)
  refine (copy_all a zs cap _ hd (by omega)).mono ?_
  rintro e w1 ⟨a1, rfl, hdat, hbe1⟩
  go_wp2_with fail
  refine (zznumber_any zs a1 zs.length k w1 hdat hk (by omega) m' n' i' f' HR.out).mono ?_
  rintro e w2 ⟨rfl, hbe2⟩
  have hdat2 := hdat.to_size hbe2
  have HB : Hid (Below w.heap.size w w2) := hbe1.trans (hbe2.mono hbe1.size)
  clear hbe1 hbe2 hdat
  go_wp2_with fail
  refine (skip11 zs a1 zs.length k _ w2 hdat2 hk (by omega)).mono ?_
  rintro e w3 ⟨rfl, hw3⟩
  obtain rfl := hw3.symm
  rw [HE.out.1]
  clear h20 hk0 hk1
  go_upto_region 13 with fail
  go_cut [13] (fun s13 wx => s13 = .bool m ∧ w2 = wx)
  case first =>
    by_cases hlt : p < zs.length
    · obtain ⟨c, hc⟩ : ∃ c, zs[p]? = some c := ⟨_, List.getElem?_eq_getElem hlt⟩
      obtain ⟨b, off, rfl, hbb, hcell, hc0, hc1⟩ := hdat2 p c hc
      have HM : Hid (m = (c == 45)) := by
        have := HE.out.2.1
        rw [← this]
        unfold Hid numMinus
        rw [hc, Bool.eq_iff_iff]
        simp
      clear hc
      have hlt' : (p : Int) < (zs.length : Int) := by omega
      go_wp2
      go_meet
      case rel => exact ⟨by rw [HM.out], rfl⟩
    · have hlt' : decide ((p : Int) < (zs.length : Int)) = false := decide_eq_false (by omega)
      have HM : Hid (m = false) := by
        have := HE.out.2.1
        rw [← this]
        unfold Hid numMinus
        rw [List.getElem?_eq_none (by omega)]
        simp
      go_wp2
      go_meet
      case rel => exact ⟨by rw [HM.out], rfl⟩
  case rest =>
    obtain ⟨rfl, rfl⟩ := hcut
    go_upto_if 76 with fail
    go_cut [12] (fun s12 wx => s12 = .int .i64 (s : Int) ∧ w2 = wx)
    case first =>
      cases m
      · have e2 := HE.out.2.2
        have e : numStart zs p = p := by unfold numStart; rw [HE.out.2.1]; rfl
        rw [e] at e2
        subst e2
        go_wp2
        go_meet
        case rel => exact ⟨rfl, rfl⟩
      · have HE2 : Hid (p + 1 = s) := by
          have e2 := HE.out.2.2
          have e : numStart zs p = p + 1 := by unfold numStart; rw [HE.out.2.1]; rfl
          rw [e] at e2
          exact e2
        go_wp2
        go_meet
        case rel => exact ⟨by rw [← HE2.out]; go_num, rfl⟩
    case rest =>
      obtain ⟨rfl, rfl⟩ := hcut
      obtain ⟨e, he⟩ : ∃ e, s + ndig (zs.drop s) = e := ⟨_, rfl⟩
      have hel : s ≤ e ∧ e ≤ zs.length := by
        have := ndig_le (zs.drop s)
        rw [List.length_drop] at this
        omega
      have HQ : Hid (s + ndig (zs.drop s) = e) := he
      clear he
      go_upto_block 0 with fail
      go_cut [15] (fun s15 wx => s15 = .int .i64 (e : Int) ∧ w2 = wx)
      case first =>
        go_wp2_with fail
        go_loopg [15] (zs.length - s) (fun g s15 wr => ∃ j : Nat, g = zs.length - j ∧ s ≤ j ∧ j ≤ zs.length ∧ s15 = .int .i64 (j : Int) ∧ j + ndig (zs.drop j) = e ∧ w2 = wr)
        case atStart => exact ⟨s, rfl, Nat.le_refl _, hs.2, rfl, HQ.out, rfl⟩
        case round =>
          obtain ⟨j, hg, hsj, hj, rfl, hje, rfl⟩ := hrel
          have HS : Hid (gk = zs.length - j ∧ j + ndig (zs.drop j) = e) := ⟨hg, hje⟩
          clear hg hje
          by_cases hlt : j < zs.length
          · obtain ⟨c, hc⟩ : ∃ c, zs[j]? = some c := ⟨_, List.getElem?_eq_getElem hlt⟩
            obtain ⟨b, off, rfl, hbb, hcell, hc0, hc1⟩ := hdat2 j c hc
            have HC : Hid (zs[j]? = some c) := hc
            clear hc
            have hlt' : (j : Int) < (zs.length : Int) := by omega
            cases hdg : isDig c
            · have HD : Hid (isDig c = false) := hdg
              go_wp2_with (go_at_call 12; refine (digit_any _ _).mono ?_; rintro e' w' ⟨rfl, hw'⟩; obtain rfl := hw'.symm)
              go_meet
              case rel => exact ⟨by rw [← HS.out.2, ndig_no HC.out HD.out]; rfl, rfl⟩
            · have HD : Hid (isDig c = true) := hdg
              go_wp2_with (go_at_call 12; refine (digit_any _ _).mono ?_; rintro e' w' ⟨rfl, hw'⟩; obtain rfl := hw'.symm)
              go_roundg (zs.length - (j + 1))
              case measure => rw [HS.out.1]; omega
              case rel => exact ⟨j + 1, rfl, by omega, by omega, by go_num, by rw [← HS.out.2, ndig_yes HC.out HD.out]; omega, rfl⟩
          · have hlt' : decide ((j : Int) < (zs.length : Int)) = false := decide_eq_false (by omega)
            go_wp2
            go_meet
            case rel => exact ⟨by rw [← HS.out.2, ndig_end (by omega)]; rfl, rfl⟩
      case rest =>
        obtain ⟨rfl, rfl⟩ := hcut
        obtain ⟨z, hz⟩ : ∃ z, s + nzero (zs.drop s) = z := ⟨_, rfl⟩
        have hzl : s ≤ z ∧ z ≤ e := by
          have := nzero_le (zs.drop s)
          have := HQ.out
          omega
        have HZ : Hid (s + nzero (zs.drop s) = z) := hz
        clear hz
        go_upto_block 2 with fail
        go_cut [16] (fun s16 wx => s16 = .int .i64 (z : Int) ∧ w2 = wx)
        case first =>
          go_wp2_with fail
          go_loopg [16] (zs.length - s) (fun g s16 wr => ∃ j : Nat, g = zs.length - j ∧ s ≤ j ∧ j ≤ e ∧ s16 = .int .i64 (j : Int) ∧ j + nzero (zs.drop j) = z ∧ w2 = wr)
          case atStart => exact ⟨s, rfl, Nat.le_refl _, hel.1, rfl, HZ.out, rfl⟩
          case round =>
            obtain ⟨j, hg, hsj, hj, rfl, hje, rfl⟩ := hrel
            have HS : Hid (gk = zs.length - j ∧ j + nzero (zs.drop j) = z) := ⟨hg, hje⟩
            clear hg hje
            by_cases hlt : j < e
            · obtain ⟨c, hc⟩ : ∃ c, zs[j]? = some c := ⟨_, List.getElem?_eq_getElem (by omega)⟩
              obtain ⟨b, off, rfl, hbb, hcell, hc0, hc1⟩ := hdat2 j c hc
              have HC : Hid (zs[j]? = some c) := hc
              clear hc
              have hlt' : (j : Int) < (e : Int) := by omega
              by_cases hc48 : c = 48
              · subst hc48
                go_wp2
                go_roundg (zs.length - (j + 1))
                case measure => rw [HS.out.1]; omega
                case rel => exact ⟨j + 1, rfl, by omega, by omega, by go_num, by rw [← HS.out.2, nzero_yes HC.out]; omega, rfl⟩
              · have hc48' : (c == 48) = false := by simpa using hc48
                have HD : Hid (¬ c = 48) := hc48
                clear hc48
                go_wp2
                go_meet
                case rel => exact ⟨by rw [← HS.out.2, nzero_no HC.out HD.out]; rfl, rfl⟩
            · obtain rfl : j = e := by omega
              have hlt' : decide ((j : Int) < (j : Int)) = false := decide_eq_false (by omega)
              go_wp2
              go_meet
              case rel =>
                have : z = j := by have := HS.out.2; omega
                exact ⟨by rw [this], rfl⟩
        case rest =>
          obtain ⟨rfl, rfl⟩ := hcut
          have HR2 : Hid (numEnd zs m s (numLoop (zs.drop s) 0 s) = (m', n', i', f')) := by
            have h := HR.out
            unfold number at h
            rw [HE.out.1, HE.out.2.1, HE.out.2.2] at h
            exact h
          have hsl : (sigOf (zs.drop s)).length = e - z := by
            rw [sig_len]
            have := HQ.out
            have := HZ.out
            omega
          have HSL : Hid ((sigOf (zs.drop s)).length = e - z) := hsl
          clear hsl
          go_upto_if 110 with fail
          go_cut [17] (fun s17 wx => valFrom 0 (sigOf (zs.drop s)) ≤ maxU ∧ ∃ nq, wx = w2.drewN nq)
          case first =>
            by_cases hge : 20 ≤ e - z
            · obtain ⟨c, hc⟩ : ∃ c, zs[z]? = some c := ⟨_, List.getElem?_eq_getElem (by omega)⟩
              obtain ⟨b, off, rfl, hbb, hcell, hc0, hc1⟩ := hdat2 z c hc
              have hge' : (20 : Int) ≤ (e : Int) - (z : Int) := by omega
              have hd20 : Dat w2 w2.heap.size ((sigOf (zs.drop s)).take 20) (some ⟨b, off + z, none⟩) := sub_dat hdat2 (fun i c h => sig_sub20 HZ.out h)
              have hl20 : ((sigOf (zs.drop s)).take 20).length = 20 := by rw [List.length_take, HSL.out]; omega
              have hab := above_iff hl20 ((sig_digs (zs.drop s)).take 20)
              by_cases hov : maxU < valFrom 0 ((sigOf (zs.drop s)).take 20)
              · have C := above13 _ (some ⟨b, off + z, none⟩) (zs.length - z) _ w2 hd20 hl20 true (by rw [hab]; simpa using hov)
                have hlo : 20 ≤ ndig (zs.drop s) - nzero (zs.drop s) := by have := HQ.out; have := HZ.out; omega
                obtain ⟨n0, hn0⟩ := loop_over20 (zs.drop s) s hlo hov
                have h := HR2.out
                rw [hn0, numEnd_over, HZ.out] at h
                obtain ⟨rfl, rfl, rfl, rfl⟩ := inj4 h
                clear h hn0 hc hab hov hd20 hl20 hcell hlo
                go_wp2_with fail
                refine C.mono ?_
                rintro e' w' ⟨rfl, nq, rfl⟩
                clear C
                go_wp2
                go_ret
                exact ⟨rfl, below_drewN HB.out _⟩
              · have C := above13 _ (some ⟨b, off + z, none⟩) (zs.length - z) _ w2 hd20 hl20 false (by rw [hab]; simpa using hov)
                by_cases hgt : 20 < e - z
                · have hgt' : (20 : Int) < (e : Int) - (z : Int) := by omega
                  have hlo : 20 < ndig (zs.drop s) - nzero (zs.drop s) := by have := HQ.out; have := HZ.out; omega
                  obtain ⟨n0, hn0⟩ := loop_over21 (zs.drop s) s hlo (by omega)
                  have h := HR2.out
                  rw [hn0, numEnd_over, HZ.out] at h
                  obtain ⟨rfl, rfl, rfl, rfl⟩ := inj4 h
                  clear h hn0 hc hab hov hd20 hl20 hcell hlo
                  go_wp2_with fail
                  refine C.mono ?_
                  rintro e' w' ⟨rfl, nq, rfl⟩
                  clear C
                  go_wp2
                  go_ret
                  exact ⟨rfl, below_drewN HB.out _⟩
                · have hgt' : decide ((20 : Int) < (e : Int) - (z : Int)) = false := decide_eq_false (by omega)
                  have HV : Hid (valFrom 0 (sigOf (zs.drop s)) ≤ maxU) := by
                    have ht : (sigOf (zs.drop s)).take 20 = sigOf (zs.drop s) := List.take_of_length_le (by rw [HSL.out]; omega)
                    rw [ht] at hov
                    exact Int.not_lt.1 hov
                  clear hc hab hov hd20 hl20 hcell
                  go_wp2_with fail
                  refine C.mono ?_
                  rintro e' w' ⟨rfl, nq, rfl⟩
                  clear C
                  go_wp2
                  go_meet
                  case rel => exact ⟨HV.out, _, rfl⟩
            · have hge' : decide ((20 : Int) ≤ (e : Int) - (z : Int)) = false := decide_eq_false (by omega)
              have HV : Hid (valFrom 0 (sigOf (zs.drop s)) ≤ maxU) := val_short (sig_digs _) (by rw [HSL.out]; omega)
              go_wp2
              go_meet
              case rel => exact ⟨HV.out, 0, rfl⟩
          case rest =>
            obtain ⟨hv, q0, hwc⟩ := hcut
            have HV : Hid (valFrom 0 (sigOf (zs.drop s)) ≤ maxU) := hv
            have hr := HR2.out
            rw [loop_pass (zs.drop s) s hv, HQ.out] at hr
            clear hv
            have hdat4 : Dat wc w2.heap.size zs a1 := by rw [hwc]; exact hdat2
            have HB4 : Hid (Below w.heap.size w wc) := by rw [hwc]; exact below_drewN HB.out _
            clear hwc HR2 HB
            rw [numEnd, if_pos rfl] at hr
            obtain ⟨rfl, hnv, rfl, hff⟩ := inj4 hr
            have HN : Hid (n' = valFrom 0 (sigOf (zs.drop s))) := hnv.symm
            have HF : Hid (((e == s) || (decide (s + 1 < e) && decide (zs[s]? = some 48))) = f') := hff
            have hn1 : n' ≤ 18446744073709551615 := by rw [← hnv]; have := HV.out; unfold maxU at this; exact this
            clear hnv hff hr
            go_upto_region 31 with fail
            go_cut [18] (fun s18 wx => s18 = .bool f' ∧ wc = wx)
            case first =>
              by_cases h0 : e = s
              · subst h0
                have hf : f' = true := by rw [← HF.out]; simp
                subst hf
                go_wp2
                go_meet
                case rel => exact ⟨rfl, rfl⟩
              · have h0' : ((e : Int) == (s : Int)) = false := beq_eq_false_iff_ne.2 (by omega)
                by_cases h1 : e = s + 1
                · have hf : f' = false := by rw [← HF.out, h1]; simp
                  subst hf
                  have h1' : decide ((1 : Int) < (e : Int) - (s : Int)) = false := decide_eq_false (by omega)
                  clear h1
                  go_wp2
                  go_meet
                  case rel => exact ⟨rfl, rfl⟩
                · have h1' : (1 : Int) < (e : Int) - (s : Int) := by omega
                  obtain ⟨c, hc⟩ : ∃ c, zs[s]? = some c := ⟨_, List.getElem?_eq_getElem (by omega)⟩
                  obtain ⟨b, off, rfl, hbb, hcell, hc0, hc1⟩ := hdat4 s c hc
                  have hf : f' = (c == 48) := by
                    rw [← HF.out, hc]
                    have e1 : (e == s) = false := beq_eq_false_iff_ne.2 h0
                    have e2 : decide (s + 1 < e) = true := decide_eq_true (by omega)
                    rw [e1, e2, Bool.eq_iff_iff]
                    simp
                  have HF2 : Hid (f' = (c == 48)) := hf
                  clear hf hc
                  go_wp2
                  go_meet
                  case rel => exact ⟨by rw [HF2.out], rfl⟩
            case rest =>
              obtain ⟨rfl, rfl⟩ := hcut
              clear HF
              by_cases hze : z = e
              · have hg : sigOf (zs.drop s) = [] := List.eq_nil_of_length_eq_zero (by rw [HSL.out]; omega)
                have hn0 : n' = 0 := by rw [HN.out, hg]; rfl
                subst hn0
                have hnil : ∀ a'', Dat wc w2.heap.size [] a'' := fun a'' k c hk => by simp at hk
                have C := fun a'' cp => decis14 0 [] a'' 0 cp w2.heap.size wc rfl (hnil a'') (fun c hc => by simp at hc) (by omega) rfl (by omega)
                have HC := C
                clear C hnil hg HN
                subst hze
                by_cases hzl2 : zs.length = z
                · cases m <;> cases f'
                  all_goals
                    go_wp2_with fail
                    refine (HC _ _).mono ?_
                    rintro e' w' ⟨rfl, hw'⟩
                    obtain rfl := hw'.symm
                    clear HC
                    go_wp2
                    go_ret
                    exact ⟨rfl, HB4.out⟩
                · cases m <;> cases f'
                  all_goals
                    go_wp2_with fail
                    refine (HC _ _).mono ?_
                    rintro e' w' ⟨rfl, hw'⟩
                    obtain rfl := hw'.symm
                    clear HC
                    go_wp2
                    go_ret
                    exact ⟨rfl, HB4.out⟩
              · obtain ⟨c, hc⟩ : ∃ c, zs[z]? = some c := ⟨_, List.getElem?_eq_getElem (by omega)⟩
                obtain ⟨b, off, rfl, hbb, hcell, hc0, hc1⟩ := hdat4 z c hc
                have hsub : Dat wc w2.heap.size (sigOf (zs.drop s)) (some ⟨b, off + z, none⟩) := sub_dat hdat4 (fun i c h => sig_sub HZ.out h)
                have C := fun cp => decis14 n' (sigOf (zs.drop s)) (some ⟨b, off + z, none⟩) (e - z) cp w2.heap.size wc HSL.out hsub (sig_digs _) (by omega) HN.out hn1
                have hzne : ¬ zs.length = z := by omega
                have HC := C
                clear C hsub hc hcell hc0 hc1
                cases m <;> cases f'
                all_goals
                  go_wp2_with fail
                  refine (HC _).mono ?_
                  rintro e' w' ⟨rfl, hw'⟩
                  obtain rfl := hw'.symm
                  clear HC
                  go_wp2
                  go_ret
                  exact ⟨rfl, HB4.out⟩
end Go.Proofs.Qxb6603827a
