import Derived.Test.Qxb6603827aSpace
namespace Go.Proofs.Qxb6603827a
open Go.RowKit

/-- The byte at place k of the data lies in w. -/
theorem Dat.at {w : World} {rb db off : Nat} {zs : List Int} (h : Dat w rb zs (some ⟨db, off, none⟩)) {k : Nat} {c : Int} (hc : zs[k]? = some c) : db < rb ∧ w.cell? ⟨db, off + k, none⟩ = some (.int .u8 c) := by
  obtain ⟨b, o, e, hlt, hcell, _, _⟩ := h k c hc
  simp at e
  obtain ⟨rfl, rfl⟩ := e
  exact ⟨hlt, hcell⟩

theorem conv_back (w : World) (nq c db o : Nat) (l : List UInt8) (n : Nat) (hn : l.length = n) (h : ∀ j (hj : j < l.length), w.cell? ⟨db, o + j, none⟩ = some (.int .u8 (l[j].toNat : Int))) :
    (convert 22 9 (.slice (some ⟨db, o, none⟩) n c)).run Try.prog (w.drewN nq) = .ok (.string ⟨l.toArray⟩) (w.drewN nq) := by
  subst hn
  exact run_convert_bytes_back (w.drewN nq) 22 9 5 ⟨db, o, none⟩ c l Try.underlying22 Try.underlying5 Try.underlying9 (fun j hj => by rw [World.cell?_drewN, Addr.add_lit]; exact h j hj)

theorem conv4 {w : World} {db o : Nat} {a b c d : UInt8} (h0 : w.cell? ⟨db, o, none⟩ = some (.int .u8 (a.toNat : Int))) (h1 : w.cell? ⟨db, o + 1, none⟩ = some (.int .u8 (b.toNat : Int)))
    (h2 : w.cell? ⟨db, o + 2, none⟩ = some (.int .u8 (c.toNat : Int))) (h3 : w.cell? ⟨db, o + 3, none⟩ = some (.int .u8 (d.toNat : Int))) (nq cap : Nat) :
    (convert 22 9 (.slice (some ⟨db, o, none⟩) 4 cap)).run Try.prog (w.drewN nq) = .ok (.string ⟨#[a, b, c, d]⟩) (w.drewN nq) := by
  refine conv_back w nq cap db o [a, b, c, d] 4 rfl ?_
  intro j hj
  match j, hj with
  | 0, _ => exact h0
  | 1, _ => exact h1
  | 2, _ => exact h2
  | 3, _ => exact h3

theorem conv5 {w : World} {db o : Nat} {a b c d e : UInt8} (h0 : w.cell? ⟨db, o, none⟩ = some (.int .u8 (a.toNat : Int))) (h1 : w.cell? ⟨db, o + 1, none⟩ = some (.int .u8 (b.toNat : Int)))
    (h2 : w.cell? ⟨db, o + 2, none⟩ = some (.int .u8 (c.toNat : Int))) (h3 : w.cell? ⟨db, o + 3, none⟩ = some (.int .u8 (d.toNat : Int))) (h4 : w.cell? ⟨db, o + 4, none⟩ = some (.int .u8 (e.toNat : Int))) (nq cap : Nat) :
    (convert 22 9 (.slice (some ⟨db, o, none⟩) 5 cap)).run Try.prog (w.drewN nq) = .ok (.string ⟨#[a, b, c, d, e]⟩) (w.drewN nq) := by
  refine conv_back w nq cap db o [a, b, c, d, e] 5 rfl ?_
  intro j hj
  match j, hj with
  | 0, _ => exact h0
  | 1, _ => exact h1
  | 2, _ => exact h2
  | 3, _ => exact h3
  | 4, _ => exact h4

set_option maxHeartbeats 400000 in
theorem bool_true (zs : List Int) (db off cap rb k p : Nat) (w : World) (hr : RdAt w rb (.slice (some ⟨db, off, none⟩) zs.length cap) k false) (hd : Dat w rb zs (some ⟨db, off, none⟩))
    (hk : k ≤ zs.length) (hl : zs.length < cap) (hc : cap ≤ 1099511627776) (hp : skip zs k = p) (h0 : zs[p]? = some 116) (h1 : zs[p + 1]? = some 114) (h2 : zs[p + 2]? = some 117) (h3 : zs[p + 3]? = some 101) :
    Calls Try.prog 24 #[.pointer (some ⟨rb, 0, none⟩)] w fun e w' => e = .returned (.bool true) ∧ Below rb w w' ∧ RdAt w' rb (.slice (some ⟨db, off, none⟩) zs.length cap) (p + 4) false := by
  have hlen : p + 3 < zs.length := (List.getElem?_eq_some_iff.1 h3).1
  have HP : Hid (skip zs k = p) := hp
  clear hp
  go_enter Try.func24, Try.ntmps24
  go_wp2_with fail
  refine (space_any zs _ cap rb k false w hr hd hk (by omega)).mono ?_
  rintro e w1 ⟨rfl, hb, hr1⟩
  rw [HP.out] at hr1
  have hd1 := hd.below hb
  have hlt := (hd1.at h0).1
  have K : ∀ nq c, (convert 22 9 (.slice (some ⟨db, off + p, none⟩) 4 c)).run Try.prog (w1.drewN nq) = .ok (.string ⟨#[116, 114, 117, 101]⟩) (w1.drewN nq) :=
    fun nq c => conv4 (a := 116) (b := 114) (c := 117) (d := 101) (hd1.at h0).2 (hd1.at h1).2 (hd1.at h2).2 (hd1.at h3).2 nq c
  have HR : Hid (RdAt w1 rb (.slice (some ⟨db, off, none⟩) zs.length cap) p false) := hr1
  obtain ⟨c0, c1, c2, z1, z2, sz⟩ := hr1
  have hge : (4 : Int) ≤ ((zs.length - p : Nat) : Int) := by omega
  clear h0 h1 h2 h3
  go_wp2
  go_quiet (fail)
  go_wp2
  go_ret
  exact ⟨rfl, (below_drewN hb _).setCell (by simp) _, (HR.out.drewN _).to _ _ (by simp)⟩

set_option maxHeartbeats 400000 in
theorem bool_false (zs : List Int) (db off cap rb k p : Nat) (w : World) (hr : RdAt w rb (.slice (some ⟨db, off, none⟩) zs.length cap) k false) (hd : Dat w rb zs (some ⟨db, off, none⟩))
    (hk : k ≤ zs.length) (hl : zs.length < cap) (hc : cap ≤ 1099511627776) (hp : skip zs k = p) (h0 : zs[p]? = some 102) (h1 : zs[p + 1]? = some 97) (h2 : zs[p + 2]? = some 108) (h3 : zs[p + 3]? = some 115) (h4 : zs[p + 4]? = some 101) :
    Calls Try.prog 24 #[.pointer (some ⟨rb, 0, none⟩)] w fun e w' => e = .returned (.bool false) ∧ Below rb w w' ∧ RdAt w' rb (.slice (some ⟨db, off, none⟩) zs.length cap) (p + 5) false := by
  have hlen : p + 4 < zs.length := (List.getElem?_eq_some_iff.1 h4).1
  have HP : Hid (skip zs k = p) := hp
  clear hp
  go_enter Try.func24, Try.ntmps24
  go_wp2_with fail
  refine (space_any zs _ cap rb k false w hr hd hk (by omega)).mono ?_
  rintro e w1 ⟨rfl, hb, hr1⟩
  rw [HP.out] at hr1
  have hd1 := hd.below hb
  have hlt := (hd1.at h0).1
  have K : ∀ nq c, (convert 22 9 (.slice (some ⟨db, off + p, none⟩) 4 c)).run Try.prog (w1.drewN nq) = .ok (.string ⟨#[102, 97, 108, 115]⟩) (w1.drewN nq) :=
    fun nq c => conv4 (a := 102) (b := 97) (c := 108) (d := 115) (hd1.at h0).2 (hd1.at h1).2 (hd1.at h2).2 (hd1.at h3).2 nq c
  have K5 : ∀ nq c, (convert 22 9 (.slice (some ⟨db, off + p, none⟩) 5 c)).run Try.prog (w1.drewN nq) = .ok (.string ⟨#[102, 97, 108, 115, 101]⟩) (w1.drewN nq) :=
    fun nq c => conv5 (a := 102) (b := 97) (c := 108) (d := 115) (e := 101) (hd1.at h0).2 (hd1.at h1).2 (hd1.at h2).2 (hd1.at h3).2 (hd1.at h4).2 nq c
  have HR : Hid (RdAt w1 rb (.slice (some ⟨db, off, none⟩) zs.length cap) p false) := hr1
  obtain ⟨c0, c1, c2, z1, z2, sz⟩ := hr1
  have hge : (4 : Int) ≤ ((zs.length - p : Nat) : Int) := by omega
  have hge5 : (5 : Int) ≤ ((zs.length - p : Nat) : Int) := by omega
  clear h0 h1 h2 h3 h4
  go_wp2
  go_quiet (fail)
  go_wp2
  go_ret
  exact ⟨rfl, (below_drewN hb _).setCell (by simp) _, (HR.out.drewN _).to _ _ (by simp)⟩

set_option maxHeartbeats 400000 in
theorem bool_end (zs : List Int) (db off cap rb k : Nat) (w : World) (hr : RdAt w rb (.slice (some ⟨db, off, none⟩) zs.length cap) k false) (hd : Dat w rb zs (some ⟨db, off, none⟩))
    (hk : k = zs.length) (hl : zs.length < cap) (hc : cap ≤ 1099511627776) :
    Calls Try.prog 24 #[.pointer (some ⟨rb, 0, none⟩)] w fun e w' => e = .returned (.bool false) ∧ Below rb w w' ∧ RdAt w' rb (.slice (some ⟨db, off, none⟩) zs.length cap) zs.length true := by
  subst hk
  go_enter Try.func24, Try.ntmps24
  go_wp2_with fail
  refine (space_any zs _ cap rb zs.length false w hr hd (Nat.le_refl _) (by omega)).mono ?_
  rintro e w1 ⟨rfl, hb, hr1⟩
  rw [skip_end (Nat.le_refl _)] at hr1
  have HR : Hid (RdAt w1 rb (.slice (some ⟨db, off, none⟩) zs.length cap) zs.length false) := hr1
  obtain ⟨c0, c1, c2, z1, z2, sz⟩ := hr1
  go_wp2
  go_quiet (fail)
  go_wp2
  go_ret
  exact ⟨rfl, (below_drewN hb _).setCell (by simp) _, (HR.out.drewN _).fail _⟩
end Go.Proofs.Qxb6603827a
