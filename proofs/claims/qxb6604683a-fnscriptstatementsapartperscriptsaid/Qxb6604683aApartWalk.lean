import Derived.Test.Qxb6604683aApart
namespace Go.Proofs.Qxb6604683a
open Go.RowKit

theorem take_over {xs : List ByteArray} {k : Nat} (h : xs.length ≤ k) : xs.take (k + 1) = xs.take k := by
  rw [List.take_of_length_le (by omega), List.take_of_length_le h]

/-- Both scripts, when k rounds have gone: apart from each other. -/
structure Two (w0 w : World) (s1 s2 lo : Nat) (own1 own2 : Option Nat) (ts us : List ByteArray) : Prop where
  one : Scr w s1 lo own1 ts
  two : Scr w s2 lo own2 us
  ne : ∀ g, own1 = some g → own2 ≠ some g
  below : Below s1 w0 w

theorem Two.first {w0 w w' : World} {s1 s2 lo : Nat} {own1 own1' own2 : Option Nat} {ts ts' us : List ByteArray} (h : Two w0 w s1 s2 lo own1 own2 ts us) (h12 : s1 < s2)
    (hS : Scr w' s1 lo own1' ts') (hF : Fr2 w w' s1 own1) (hor : own1' = own1 ∨ ∃ g', own1' = some g' ∧ w.heap.size ≤ g') : Two w0 w' s1 s2 lo own1' own2 ts' us := by
  obtain ⟨h1, h2, h3, h4⟩ := h
  refine ⟨hS, h2.other hF (by omega) h1.lo h1.far h3, ?_, h4.trans (hF.below (by have := h1.sz; omega) (Nat.le_refl _) (fun g e => by have := h1.far g e; have := h1.lo; omega))⟩
  intro g e e2
  rcases hor with rfl | ⟨g', e', hg'⟩
  · exact h3 g e e2
  · rw [e'] at e
    obtain rfl := Option.some.inj e
    have := h2.own_lt _ e2
    omega

theorem Two.second {w0 w w' : World} {s1 s2 lo : Nat} {own1 own2 own2' : Option Nat} {ts us us' : List ByteArray} (h : Two w0 w s1 s2 lo own1 own2 ts us) (h12 : s1 < s2)
    (hS : Scr w' s2 lo own2' us') (hF : Fr2 w w' s2 own2) (hor : own2' = own2 ∨ ∃ g', own2' = some g' ∧ w.heap.size ≤ g') : Two w0 w' s1 s2 lo own1 own2' ts us' := by
  obtain ⟨h1, h2, h3, h4⟩ := h
  refine ⟨h1.other hF (by omega) h2.lo h2.far (fun g e e2 => h3 g e2 e), hS, ?_, h4.trans (hF.below (by have := h1.sz; omega) (by omega) (fun g e => by have := h2.far g e; have := h1.lo; omega))⟩
  intro g e e2
  rcases hor with rfl | ⟨g', e', hg'⟩
  · exact h3 g e e2
  · rw [e'] at e2
    obtain rfl := Option.some.inj e2
    have := h1.own_lt _ e
    omega

theorem Two.start (w : World) (T : TypeId) : Two w ((w.alloc (.cells #[.slice none 0 0] T)).alloc (.cells #[.slice none 0 0] T)) w.heap.size (w.heap.size + 1) (w.heap.size + 2) none none [] [] := by
  refine ⟨(Scr.new w _ (by omega) T).alloc _, ?_, (fun g e => by cases e), ((Below.refl _ _).alloc (Nat.le_refl _) _).alloc (by simp) _⟩
  have := Scr.new (w.alloc (.cells #[.slice none 0 0] T)) (w.heap.size + 2) (by simp) T
  simpa using this

set_option maxHeartbeats 1000000 in
theorem apart_main (a b : Option Addr) (xs ys : List ByteArray) (ca cb : Nat) (w : World) (hd : SDat w w.heap.size xs a) (hd2 : SDat w w.heap.size ys b) (hl : xs.length ≤ 65536) (hl2 : ys.length ≤ 65536) :
    Calls Try.prog 6 #[.slice a xs.length ca, .slice b ys.length cb] w fun e w' => e = .returned (.bool true) ∧ Below w.heap.size w w' := by
  have h16 : decide ((65536 : Int) < (xs.length : Int)) = false := decide_eq_false (by omega)
  have h16' : decide ((65536 : Int) < (ys.length : Int)) = false := decide_eq_false (by omega)
  go_enter Try.func6, Try.ntmps6
  go_wp2_with fail
  refine (bytes20 a b xs ys ca cb w _ hd hd2 (by unfold maxLen; omega) (by unfold maxLen; omega)).mono ?_
  rintro e w0 ⟨⟨b0, rfl⟩, rfl⟩
  cases b0
  · go_wp2
    go_ret
    exact ⟨rfl, Below.refl _ _⟩
  · go_wp2_with fail
    refine (bytes15 a xs ca w _ hd hl).mono ?_
    rintro e w0 ⟨n1, rfl, rfl⟩
    go_wp2_with fail
    refine (bytes15 b ys cb w _ hd2 hl2).mono ?_
    rintro e w0 ⟨n2, rfl, rfl⟩
    by_cases hn0 : (1048576 : Int) < wrap64 (n1 + n2)
    · have hn0' : decide ((1048576 : Int) < wrap64 (n1 + n2)) = true := decide_eq_true hn0
      go_wp2
      go_ret
      exact ⟨rfl, Below.refl _ _⟩
    · have hn0' : decide ((1048576 : Int) < wrap64 (n1 + n2)) = false := decide_eq_false hn0
      go_wp2_with fail
      refine (clone16 a xs ca w hd hl).mono ?_
      rintro e w1 ⟨a1, rfl, hda, hbe1⟩
      have hdb := (hd2.below hbe1).mono hbe1.size
      go_wp2_with fail
      refine (clone16 b ys cb w1 hdb hl2).mono ?_
      rintro e w2 ⟨a2, rfl, hdb2, hbe2⟩
      have hda2 := (hda.below hbe2).mono hbe2.size
      have HB : Hid (Below w.heap.size w w2) := hbe1.trans (hbe2.mono hbe1.size)
      clear hdb hda hbe1 hbe2 hd hd2
      go_wp2_with fail
      refine (new17 w2).mono ?_
      rintro e w3 ⟨rfl, rfl⟩
      go_wp2_with fail
      refine (new17 _).mono ?_
      rintro e w4 ⟨rfl, rfl⟩
      go_upto_if 38 with fail
      go_cut [7] (fun s7 wx => (∃ n : Nat, s7 = .int .i64 (n : Int) ∧ xs.length ≤ n ∧ ys.length ≤ n ∧ n ≤ 65536) ∧ Two w2 wx w2.heap.size (w2.heap.size + 1) (w2.heap.size + 2) none none [] [])
      case first =>
        by_cases hxy : xs.length < ys.length
        · have hxy' : decide (xs.length < ys.length) = true := decide_eq_true hxy
          go_wp2
          go_meet
          case rel => exact ⟨⟨ys.length, rfl, by omega, Nat.le_refl _, hl2⟩, Two.start w2 56⟩
        · have hxy' : decide (xs.length < ys.length) = false := decide_eq_false hxy
          go_wp2
          go_meet
          case rel => exact ⟨⟨xs.length, rfl, Nat.le_refl _, by omega, hl⟩, Two.start w2 56⟩
      case rest =>
        obtain ⟨⟨n, rfl, hn1, hn2, hn3⟩, hT⟩ := hcut
        go_wp2_with fail
        go_loopg [8] n (fun g s8 wr => ∃ (k : Nat) (own1 own2 : Option Nat), g = n - k ∧ k ≤ n ∧ s8 = .int .i64 (k : Int) ∧ Two w2 wr w2.heap.size (w2.heap.size + 1) (w2.heap.size + 2) own1 own2 (xs.take k) (ys.take k))
        case atStart => exact ⟨0, none, none, rfl, by omega, rfl, hT⟩
        case round =>
          obtain ⟨k, own1, own2, hg, hk, rfl, hTk⟩ := hrel
          have HG : Hid (gk = n - k) := hg
          clear hg hT
          obtain ⟨wo, rfl⟩ : ∃ x : World, x = wr := ⟨_, rfl⟩
          by_cases hlt : k < n
          · have hlt' : (k : Int) < (n : Int) := by omega
            go_upto_if 49 with fail
            go_cut [] (fun wx => ∃ own1', Two w2 wx w2.heap.size (w2.heap.size + 1) (w2.heap.size + 2) own1' own2 (xs.take (k + 1)) (ys.take k))
            case first =>
              by_cases hkx : k < xs.length
              · obtain ⟨t, ht⟩ : ∃ t, xs[k]? = some t := ⟨_, List.getElem?_eq_getElem hkx⟩
                obtain ⟨b', off, rfl, hbb, hcell⟩ := (hda2.below hTk.below) k t ht
                have hkx' : (k : Int) < (xs.length : Int) := by omega
                have htk : (xs.take k).length ≤ 65536 := by simp; omega
                have hlo : w2.heap.size + 2 ≤ wo.heap.size := by have := hTk.two.sz; omega
                have HC := stmt18 wo w2.heap.size (w2.heap.size + 2) own1 (xs.take k) t hTk.one htk hlo
                have HT : Hid (xs.take (k + 1) = xs.take k ++ [t]) := take_snocB ht
                clear ht htk
                go_wp2_with fail
                refine HC.mono ?_
                rintro e w5 ⟨rfl, own', hS', hF, hor⟩
                have H5 : Hid (∃ own1', Two w2 w5 w2.heap.size (w2.heap.size + 1) (w2.heap.size + 2) own1' own2 (xs.take (k + 1)) (ys.take k)) := by
                  rw [HT.out]
                  exact ⟨own', hTk.first (by omega) hS' hF hor⟩
                clear HC hS' hF hor
                go_wp2
                go_meet
                case rel => exact H5.out
              · have hkx' : decide ((k : Int) < (xs.length : Int)) = false := decide_eq_false (by omega)
                have H5 : Hid (xs.take (k + 1) = xs.take k) := take_over (by omega)
                go_wp2
                go_meet
                case rel => exact ⟨own1, by rw [H5.out]; exact hTk⟩
            case rest =>
              obtain ⟨own1', hT2⟩ := hcut
              clear hTk
              obtain ⟨w6, rfl⟩ : ∃ x : World, x = wc := ⟨_, rfl⟩
              by_cases hky : k < ys.length
              · obtain ⟨t, ht⟩ : ∃ t, ys[k]? = some t := ⟨_, List.getElem?_eq_getElem hky⟩
                obtain ⟨b', off, rfl, hbb, hcell⟩ := (hdb2.below hT2.below) k t ht
                have hky' : (k : Int) < (ys.length : Int) := by omega
                have htk : (ys.take k).length ≤ 65536 := by simp; omega
                have hlo : w2.heap.size + 2 ≤ w6.heap.size := by have := hT2.two.sz; omega
                have HC := stmt18 w6 (w2.heap.size + 1) (w2.heap.size + 2) own2 (ys.take k) t hT2.two htk hlo
                have HT : Hid (ys.take (k + 1) = ys.take k ++ [t]) := take_snocB ht
                clear ht htk
                go_wp2_with fail
                refine HC.mono ?_
                rintro e w5 ⟨rfl, own', hS', hF, hor⟩
                have H5 : Hid (Two w2 w5 w2.heap.size (w2.heap.size + 1) (w2.heap.size + 2) own1' own' (xs.take (k + 1)) (ys.take (k + 1))) := by
                  rw [HT.out]
                  exact hT2.second (by omega) hS' hF hor
                clear HC hS' hF hor
                go_wp2
                go_roundg (n - (k + 1))
                case measure => rw [HG.out]; omega
                case rel => exact ⟨k + 1, own1', own', rfl, by omega, by go_num, H5.out⟩
              · have hky' : decide ((k : Int) < (ys.length : Int)) = false := decide_eq_false (by omega)
                have H5 : Hid (ys.take (k + 1) = ys.take k) := take_over (by omega)
                go_wp2
                go_roundg (n - (k + 1))
                case measure => rw [HG.out]; omega
                case rel => exact ⟨k + 1, own1', own2, rfl, by omega, by go_num, by rw [H5.out]; exact hT2⟩
          · obtain rfl : k = n := by omega
            have e1 : xs.take k = xs := List.take_of_length_le hn1
            have e2 : ys.take k = ys := List.take_of_length_le hn2
            rw [e1, e2] at hTk
            clear e1 e2
            have hdx := hda2.below hTk.below
            have hdy := hdb2.below hTk.below
            go_wp2_with fail
            refine (holds19 wo _ _ _ own1 xs a1 xs.length hTk.one hdx hl).mono ?_
            rintro e w7 ⟨rfl, n7, rfl⟩
            go_wp2_with fail
            refine (holds19 _ _ _ _ own2 ys a2 ys.length (hTk.two.drewN n7) hdy hl2).mono ?_
            rintro e w8 ⟨rfl, n8, rfl⟩
            go_wp2
            go_ret
            exact ⟨rfl, HB.out.trans ((below_drewN hTk.below _).mono HB.out.size)⟩
end Go.Proofs.Qxb6604683a
