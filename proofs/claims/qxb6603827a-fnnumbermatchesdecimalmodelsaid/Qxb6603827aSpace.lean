import Derived.Test.Qxb6603827aProg
import Derived.Test.Qxb6603827aPlain
import Derived.WalkKit
import Derived.WalkSpells
import Derived.WalkLawsBesides
import Derived.Deep.QuietTactic
import Derived.BigQuiet
import Derived.Deep.LoopGhost
namespace Go.Proofs.Qxb6603827a
open Go.RowKit

/-- The reader at block rb: its data, its position, its failed flag; both flags may be written. -/
structure RdAt (w : World) (rb : Nat) (v : Value) (k : Nat) (f : Bool) : Prop where
  c0 : w.cell? ⟨rb, 0, none⟩ = some v
  c1 : w.cell? ⟨rb, 1, none⟩ = some (.int .i64 (k : Int))
  c2 : w.cell? ⟨rb, 2, none⟩ = some (.bool f)
  z1 : w.frozen? ⟨rb, 1, none⟩ = false
  z2 : w.frozen? ⟨rb, 2, none⟩ = false
  sz : rb < w.heap.size

/-- The bytes zs lie behind the address a, below block rb. -/
def Dat (w : World) (rb : Nat) (zs : List Int) (a : Option Addr) : Prop :=
  ∀ k c, zs[k]? = some c → ∃ b off, a = some ⟨b, off, none⟩ ∧ b < rb ∧ w.cell? ⟨b, off + k, none⟩ = some (.int .u8 c) ∧ 0 ≤ c ∧ c ≤ 255

theorem Dat.below {w w' : World} {rb : Nat} {zs : List Int} {a : Option Addr} (h : Dat w rb zs a) (hb : Below rb w w') : Dat w' rb zs a := by
  intro k c hc
  obtain ⟨b, off, e, hlt, hcell, h0, h1⟩ := h k c hc
  exact ⟨b, off, e, hlt, by rw [hb.cell (by exact hlt)]; exact hcell, h0, h1⟩

theorem RdAt.drewN {w : World} {rb k : Nat} {v : Value} {f : Bool} (h : RdAt w rb v k f) (n : Nat) : RdAt (w.drewN n) rb v k f := by
  obtain ⟨c0, c1, c2, z1, z2, sz⟩ := h
  exact ⟨c0, c1, c2, z1, z2, sz⟩

theorem Dat.drewN {w : World} {rb : Nat} {zs : List Int} {a : Option Addr} (h : Dat w rb zs a) (n : Nat) : Dat (w.drewN n) rb zs a := h

theorem RdAt.to {w : World} {rb k : Nat} {v : Value} {f : Bool} (h : RdAt w rb v k f) (x : Int) (k' : Nat) (e : x = (k' : Int)) : RdAt (w.setCell ⟨rb, 1, none⟩ (.int .i64 x)) rb v k' f := by
  obtain ⟨c0, c1, c2, z1, z2, sz⟩ := h
  subst e
  exact ⟨by rw [World.cell?_setCell_other _ _ _ _ (by simp)]; exact c0, World.cell?_setCell_same _ _ _ c1, by rw [World.cell?_setCell_other _ _ _ _ (by simp)]; exact c2, by simpa using z1, by simpa using z2, by simpa using sz⟩

theorem RdAt.fail {w : World} {rb k : Nat} {v : Value} {f : Bool} (h : RdAt w rb v k f) (g : Bool) : RdAt (w.setCell ⟨rb, 2, none⟩ (.bool g)) rb v k g := by
  obtain ⟨c0, c1, c2, z1, z2, sz⟩ := h
  exact ⟨by rw [World.cell?_setCell_other _ _ _ _ (by simp)]; exact c0, by rw [World.cell?_setCell_other _ _ _ _ (by simp)]; exact c1, World.cell?_setCell_same _ _ _ c2, by simpa using z1, by simpa using z2, by simpa using sz⟩

set_option maxHeartbeats 400000 in
theorem space_any (zs : List Int) (a : Option Addr) (cap rb k : Nat) (f : Bool) (w : World) (hr : RdAt w rb (.slice a zs.length cap) k f) (hd : Dat w rb zs a) (hk : k ≤ zs.length) (hl : zs.length ≤ 1099511627776) :
    Calls Try.prog 26 #[.pointer (some ⟨rb, 0, none⟩)] w fun e w' => e = .returned (.tuple #[]) ∧ Below rb w w' ∧ RdAt w' rb (.slice a zs.length cap) (skip zs k) f := by
  go_enter Try.func26, Try.ntmps26
  go_wp2
  go_loopg [] (zs.length - k) (fun m wr => ∃ j, j ≤ zs.length ∧ m = zs.length - j ∧ skip zs j = skip zs k ∧ Below rb w wr ∧ RdAt wr rb (.slice a zs.length cap) j f)
  case atStart => exact ⟨k, hk, rfl, rfl, Below.refl _ _, hr⟩
  case round =>
    obtain ⟨j, hj, hm, hs, hb, hr'⟩ := hrel
    have HS : Hid (gk = zs.length - j ∧ skip zs j = skip zs k) := ⟨hm, hs⟩
    clear hm hs
    obtain ⟨c0, c1, c2, z1, z2, sz⟩ := hr'
    by_cases hlt : j < zs.length
    · obtain ⟨c, hc⟩ : ∃ c, zs[j]? = some c := ⟨_, List.getElem?_eq_getElem hlt⟩
      obtain ⟨b, off, rfl, hbb, hcell, hc0, hc1⟩ := hd.below hb j c hc
      have HC : Hid (zs[j]? = some c) := hc
      clear hc
      have hlt' : (j : Int) < (zs.length : Int) := by omega
      go_wp2
      go_quiet (fail)
      go_wp2
      go_quiet (fail)
      go_wp2
      iterate 4
        · have R : RdAt wr rb (.slice (some ⟨b, off, none⟩) zs.length cap) j f := ⟨c0, c1, c2, z1, z2, sz⟩
          have hsp : isSp c = true := by simp [isSp, *]
          go_roundg (zs.length - (j + 1))
          case measure => rw [HS.out.1]; omega
          case rel => exact ⟨j + 1, by omega, rfl, by rw [← skip_sp HC.out hsp]; exact HS.out.2, (below_drewN hb _).setCell (by simp) _, (R.drewN _).to _ _ (by simp)⟩
      · have R : RdAt wr rb (.slice (some ⟨b, off, none⟩) zs.length cap) j f := ⟨c0, c1, c2, z1, z2, sz⟩
        have hsp : isSp c = false := by simp [isSp, *]
        refine bodyPost_ret (results_none rfl _ _ _) rfl ?_
        have e : skip zs k = j := by rw [← HS.out.2]; exact skip_no HC.out hsp
        exact ⟨rfl, below_drewN hb _, by rw [e]; exact R.drewN _⟩
    · have hlt' : decide ((j : Int) < (zs.length : Int)) = false := by simp; omega
      go_wp2
      go_quiet (fail)
      go_wp2
      go_end0
      have R : RdAt wr rb (.slice a zs.length cap) j f := ⟨c0, c1, c2, z1, z2, sz⟩
      have e : skip zs k = j := by rw [← HS.out.2]; exact skip_end (by omega)
      exact ⟨rfl, below_drewN hb _, by rw [e]; exact R.drewN _⟩
end Go.Proofs.Qxb6603827a
