import Derived.Test.Qxb6603827aSpace
import Derived.Test.Qxb6603827aNum
import Derived.Deep.CutBlock
import Derived.Deep.DeepCutAuto
namespace Go.Proofs.Qxb6603827a
open Go.RowKit

set_option maxHeartbeats 400000 in
theorem number_failed (zs : List Int) (a : Option Addr) (cap rb k : Nat) (w : World) (hr : RdAt w rb (.slice a zs.length cap) k true) (hd : Dat w rb zs a) (hk : k ≤ zs.length) (hl : zs.length ≤ 1099511627776) :
    Calls Try.prog 22 #[.pointer (some ⟨rb, 0, none⟩)] w fun e w' => e = .returned (.tuple #[.bool false, .int .u64 0]) ∧ Below rb w w' ∧ RdAt w' rb (.slice a zs.length cap) (skip zs k) true := by
  go_enter Try.func22, Try.ntmps22
  go_wp2_with fail
  refine (space_any zs _ cap rb k true w hr hd hk hl).mono ?_
  rintro e w1 ⟨rfl, hb, hr1⟩
  have HR := hr1
  obtain ⟨c0, c1, c2, z1, z2, sz⟩ := hr1
  go_wp2
  go_ret2
  exact ⟨rfl, hb, HR⟩

set_option maxRecDepth 100000 in
set_option maxHeartbeats 1000000 in
theorem number_any (zs : List Int) (a : Option Addr) (cap rb k : Nat) (w : World) (hr : RdAt w rb (.slice a zs.length cap) k false) (hd : Dat w rb zs a) (hk : k ≤ zs.length) (hl : zs.length ≤ 1099511627776)
    (m' : Bool) (n' : Int) (i' : Nat) (f' : Bool) (hR : number zs k = (m', n', i', f')) :
    Calls Try.prog 22 #[.pointer (some ⟨rb, 0, none⟩)] w fun e w' => e = .returned (.tuple #[.bool m', .int .u64 n']) ∧ Below rb w w' ∧ RdAt w' rb (.slice a zs.length cap) i' f' := by
  have hp := skip_le hk
  have hs := numStart_le hp.2
  obtain ⟨p, ep⟩ : ∃ p, skip zs k = p := ⟨_, rfl⟩
  obtain ⟨m, em⟩ : ∃ m, numMinus zs p = m := ⟨_, rfl⟩
  obtain ⟨s, es⟩ : ∃ s, numStart zs p = s := ⟨_, rfl⟩
  rw [ep] at hp hs
  rw [es] at hs
  have HR : Hid (numEnd zs m s (numLoop (zs.drop s) 0 s) = (m', n', i', f')) := by
    have h := hR
    unfold number at h
    rw [ep, em, es] at h
    exact h
  have HE : Hid (skip zs k = p ∧ numMinus zs p = m ∧ numStart zs p = s) := ⟨ep, em, es⟩
  clear hR ep em es
  go_enter Try.func22, Try.ntmps22
  go_wp2_with fail
  refine (space_any zs _ cap rb k false w hr hd hk hl).mono ?_
  rintro e w1 ⟨rfl, hb, hr1⟩
  rw [HE.out.1] at hr1
  have HR1 := hr1
  obtain ⟨c0, c1, c2, z1, z2, sz⟩ := hr1
  go_wp2
  go_cut [2] (fun s2 wx => s2 = .bool m ∧ RdAt wx rb (.slice a zs.length cap) p false ∧ Below rb w wx)
  case first =>
    by_cases hlt : p < zs.length
    · obtain ⟨c, hc⟩ : ∃ c, zs[p]? = some c := ⟨_, List.getElem?_eq_getElem hlt⟩
      obtain ⟨b, off, rfl, hbb, hcell, hc0, hc1⟩ := hd.below hb p c hc
      have HM : Hid (m = (c == 45)) := by
        have := HE.out.2.1
        rw [← this]
        unfold Hid numMinus
        rw [hc, Bool.eq_iff_iff]
        simp
      clear hc
      have hlt' : (p : Int) < (zs.length : Int) := by omega
      go_quiet (fail)
      go_wp2
      go_meet
      case rel => exact ⟨by rw [HM.out], HR1.drewN _, below_drewN hb _⟩
    · have hlt' : decide ((p : Int) < (zs.length : Int)) = false := by simp; omega
      have HM : Hid (m = false) := by
        have := HE.out.2.1
        rw [← this]
        unfold Hid numMinus
        rw [List.getElem?_eq_none (by omega)]
        simp
      go_quiet (fail)
      go_wp2
      go_meet
      case rel => exact ⟨by rw [HM.out], HR1.drewN _, below_drewN hb _⟩
  case rest =>
    obtain ⟨rfl, hrc, hbc⟩ := hcut
    clear c0 c1 c2 z1 z2 sz HR1 hb
    obtain ⟨w2, rfl⟩ : ∃ x : World, x = wc := ⟨_, rfl⟩
    have HR2 := hrc
    obtain ⟨c0, c1, c2, z1, z2, sz⟩ := hrc
    go_upto_if 36 with fail
    go_cut [] (fun wx => RdAt wx rb (.slice a zs.length cap) s false ∧ Below rb w wx)
    case first =>
      cases m
      · have e : numStart zs p = p := by unfold numStart; rw [HE.out.2.1]; rfl
        have e2 := HE.out.2.2
        rw [e] at e2
        go_wp2
        go_meet
        case rel => exact ⟨by rw [← e2]; exact HR2, hbc⟩
      · have e : numStart zs p = p + 1 := by unfold numStart; rw [HE.out.2.1]; rfl
        have HE2 : Hid (p + 1 = s) := by have e2 := HE.out.2.2; rw [e] at e2; exact e2
        clear e
        go_wp2
        go_meet
        case rel => exact ⟨HR2.to _ _ (by rw [← HE2.out]; simp), hbc.setCell (by simp) _⟩
    case rest =>
      obtain ⟨hrc, hbd⟩ := hcut
      clear c0 c1 c2 z1 z2 sz HR2 hbc
      obtain ⟨w3, rfl⟩ : ∃ x : World, x = wc := ⟨_, rfl⟩
      have HR3 := hrc
      obtain ⟨c0, c1, c2, z1, z2, sz⟩ := hrc
      go_upto_block 0 with fail
      go_cut [2, 3] (fun s2 s3 wx => ∃ (n : Int) (i : Nat), s2 = .bool m ∧ s3 = .int .u64 n ∧ s ≤ i ∧ i ≤ zs.length ∧ numLoop (zs.drop s) 0 s = (true, n, i) ∧ RdAt wx rb (.slice a zs.length cap) i false ∧ Below rb w wx)
      case first =>
        go_wp2_with fail
        go_loopg [2, 3] (zs.length - s) (fun g s2 s3 wr => ∃ (n : Int) (j : Nat), g = zs.length - j ∧ s2 = .bool m ∧ s3 = .int .u64 n ∧ 0 ≤ n ∧ n ≤ 18446744073709551615 ∧ s ≤ j ∧ j ≤ zs.length ∧ numLoop (zs.drop s) 0 s = numLoop (zs.drop j) n j ∧ RdAt wr rb (.slice a zs.length cap) j false ∧ Below rb w wr)
        case atStart => exact ⟨0, s, rfl, rfl, rfl, by omega, by omega, by omega, by omega, rfl, HR3, hbd⟩
        case round =>
          clear c0 c1 c2 z1 z2 sz HR3 hbd
          obtain ⟨n, j, hg, rfl, rfl, hn0, hn1, hsj, hj, hnl, hrc, hbe⟩ := hrel
          have HN : Hid (gk = zs.length - j ∧ numLoop (zs.drop s) 0 s = numLoop (zs.drop j) n j) := ⟨hg, hnl⟩
          clear hg hnl
          have HR4 := hrc
          obtain ⟨c0, c1, c2, z1, z2, sz⟩ := hrc
          by_cases hlt : j < zs.length
          · obtain ⟨c, hc⟩ : ∃ c, zs[j]? = some c := ⟨_, List.getElem?_eq_getElem hlt⟩
            obtain ⟨b, off, rfl, hbb, hcell, hc0, hc1⟩ := hd.below hbe j c hc
            have HC : Hid (zs[j]? = some c) := hc
            clear hc
            have hlt' : (j : Int) < (zs.length : Int) := by omega
            by_cases h48 : 48 ≤ c
            · by_cases h57 : c ≤ 57
              · have hdig : isDig c = true := by simp [isDig, h48, h57]
                by_cases hov : (18446744073709551615 - (c - 48)) / 10 < n
                · go_wp2
                  go_quiet (fail)
                  go_wp2
                  go_quiet (fail)
                  go_wp2
                  go_ret2
                  have h := HR.out
                  rw [HN.out.2, numLoop_over HC.out hdig (by unfold maxU; exact hov)] at h
                  rw [numEnd_over] at h
                  obtain ⟨rfl, rfl, rfl, rfl⟩ := inj4 h
                  exact ⟨rfl, (below_drewN hbe _).setCell (by simp) _, (HR4.drewN _).fail _⟩
                · have hov1 : n * 10 ≤ 18446744073709551615 := by omega
                  have hov2 : n * 10 + (c - 48) ≤ 18446744073709551615 := by omega
                  go_wp2
                  go_quiet (fail)
                  go_wp2
                  go_quiet (fail)
                  go_wp2
                  go_roundg (zs.length - (j + 1))
                  case measure => rw [HN.out.1]; omega
                  case rel => exact ⟨n * 10 + (c - 48), j + 1, rfl, rfl, rfl, by omega, by omega, by omega, by omega, by rw [HN.out.2]; exact numLoop_on HC.out hdig (by unfold maxU; omega), (HR4.drewN _).to _ _ (by simp), (below_drewN hbe _).setCell (by simp) _⟩
              · have h57' : decide (c ≤ 57) = false := by simpa using h57
                go_wp2
                go_quiet (fail)
                go_wp2
                go_meet
                case rel => exact ⟨n, j, rfl, rfl, hsj, hj, by rw [HN.out.2]; exact numLoop_no HC.out (by simp [isDig, h57']) n, HR4.drewN _, below_drewN hbe _⟩
            · have h48' : decide (48 ≤ c) = false := by simpa using h48
              go_wp2
              go_quiet (fail)
              go_wp2
              go_meet
              case rel => exact ⟨n, j, rfl, rfl, hsj, hj, by rw [HN.out.2]; exact numLoop_no HC.out (by simp [isDig, h48']) n, HR4.drewN _, below_drewN hbe _⟩
          · have hlt' : decide ((j : Int) < (zs.length : Int)) = false := by simp; omega
            go_wp2
            go_quiet (fail)
            go_wp2
            go_meet
            case rel => exact ⟨n, j, rfl, rfl, hsj, hj, by rw [HN.out.2]; exact numLoop_end (by omega) n, HR4.drewN _, below_drewN hbe _⟩
      case rest =>
        obtain ⟨n, i, rfl, rfl, hsi, hi, hnl, hrc, hbe⟩ := hcut
        have HN : Hid (numLoop (zs.drop s) 0 s = (true, n, i)) := hnl
        clear c0 c1 c2 z1 z2 sz HR3 hbd hnl
        obtain ⟨w4, rfl⟩ : ∃ x : World, x = wc := ⟨_, rfl⟩
        have HR4 := hrc
        obtain ⟨c0, c1, c2, z1, z2, sz⟩ := hrc
        have hR := HR.out
        rw [HN.out] at hR
        by_cases h0 : i = s
        · subst h0
          rw [numEnd_zero] at hR
          obtain ⟨rfl, rfl, rfl, rfl⟩ := inj4 hR
          go_wp2
          go_ret2
          exact ⟨rfl, hbe.setCell (by simp) _, HR4.fail _⟩
        · by_cases h1 : i = s + 1
          · subst h1
            rw [numEnd_one] at hR
            obtain ⟨rfl, rfl, rfl, rfl⟩ := inj4 hR
            go_wp2
            go_ret2
            exact ⟨rfl, hbe, HR4⟩
          · have hi1 : s + 1 < i := by omega
            obtain ⟨c, hc⟩ : ∃ c, zs[s]? = some c := ⟨_, List.getElem?_eq_getElem (by omega)⟩
            obtain ⟨b, off, rfl, hbb, hcell, hc0, hc1⟩ := hd.below hbe s c hc
            rw [numEnd_more hc _ hi1] at hR
            clear hc
            cases hc48 : (c == 48)
            · rw [hc48] at hR
              obtain ⟨rfl, rfl, rfl, rfl⟩ := inj4 hR
              go_wp2
              go_ret2
              exact ⟨rfl, hbe, HR4⟩
            · rw [hc48] at hR
              obtain ⟨rfl, rfl, rfl, rfl⟩ := inj4 hR
              go_wp2
              go_ret2
              exact ⟨rfl, hbe.setCell (by simp) _, HR4.fail _⟩
end Go.Proofs.Qxb6603827a
