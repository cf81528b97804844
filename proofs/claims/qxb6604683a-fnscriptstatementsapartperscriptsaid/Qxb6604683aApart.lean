import Derived.Test.Qxb6604683aTexts
import Derived.Deep.CutBlock
import Derived.Deep.DeepCutAuto
namespace Go.Proofs.Qxb6604683a
open Go.RowKit

/-- Some bool is handed back. -/
def AnyBool (e : Ending) : Prop := ∃ r, e = .returned (.bool r)
theorem anyBool (r : Bool) : AnyBool (.returned (.bool r)) := ⟨r, rfl⟩

set_option maxHeartbeats 1000000 in
theorem bytes20 (a b : Option Addr) (xs ys : List ByteArray) (ca cb : Nat) (w : World) (B : Nat) (hd : SDat w B xs a) (hd2 : SDat w B ys b) (hm : xs.length ≤ maxLen) (hm2 : ys.length ≤ maxLen) :
    Calls Try.prog 20 #[.slice a xs.length ca, .slice b ys.length cb] w fun e w' => AnyBool e ∧ w = w' := by
  unfold maxLen at hm hm2
  by_cases hx : (1048576 : Int) < (xs.length : Int)
  · have hx' : decide ((1048576 : Int) < (xs.length : Int)) = true := decide_eq_true hx
    go_enter Try.func20, Try.ntmps20
    go_wp2
    go_ret
    exact ⟨anyBool _, rfl⟩
  · have hx' : decide ((1048576 : Int) < (xs.length : Int)) = false := decide_eq_false hx
    go_enter Try.func20, Try.ntmps20
    go_upto_block 0 with fail
    go_cut [5] (fun s5 wx => (∃ x : Int, s5 = .int .i64 x) ∧ w = wx)
    case first =>
      go_wp2_with fail
      go_loopg [4, 5, 6] xs.length (fun g s4 s5 s6 wr => ∃ (k : Nat) (x : Int), g = xs.length - k ∧ k ≤ xs.length ∧ s6 = .int .i64 (k : Int) ∧ s5 = .int .i64 x ∧ w = wr)
      case atStart => exact ⟨0, _, rfl, by omega, rfl, rfl, rfl⟩
      case round =>
        obtain ⟨k, x, hg, hk, rfl, rfl, rfl⟩ := hrel
        have HG : Hid (gk = xs.length - k) := hg
        clear hg
        by_cases hlt : k < xs.length
        · obtain ⟨t, ht⟩ : ∃ t, xs[k]? = some t := ⟨_, List.getElem?_eq_getElem hlt⟩
          obtain ⟨b, off, rfl, hbb, hcell⟩ := hd k t ht
          have hlt' : (k : Int) < (xs.length : Int) := by omega
          clear ht
          go_wp2
          all_goals first
            | (go_ret; exact ⟨anyBool _, rfl⟩)
            | (go_roundg (xs.length - (k + 1)); (case measure => rw [HG.out]; omega); (case rel => exact ⟨k + 1, _, rfl, by omega, by go_num, rfl, rfl⟩))
        · obtain rfl : k = xs.length := by omega
          go_wp2
          go_meet
          case rel => exact ⟨⟨_, rfl⟩, rfl⟩
    case rest =>
      obtain ⟨⟨x, rfl⟩, rfl⟩ := hcut
      go_wp2_with fail
      all_goals first | (go_ret; exact ⟨anyBool _, rfl⟩) | skip
      go_loopg [4, 5, 7] ys.length (fun g s4 s5 s7 wr => ∃ (k : Nat) (x : Int), g = ys.length - k ∧ k ≤ ys.length ∧ s7 = .int .i64 (k : Int) ∧ s5 = .int .i64 x ∧ w = wr)
      case atStart => exact ⟨0, _, rfl, by omega, rfl, rfl, rfl⟩
      case round =>
        obtain ⟨k, x, hg, hk, rfl, rfl, rfl⟩ := hrel
        have HG : Hid (gk = ys.length - k) := hg
        clear hg
        by_cases hlt : k < ys.length
        · obtain ⟨t, ht⟩ : ∃ t, ys[k]? = some t := ⟨_, List.getElem?_eq_getElem hlt⟩
          obtain ⟨b, off, rfl, hbb, hcell⟩ := hd2 k t ht
          have hlt' : (k : Int) < (ys.length : Int) := by omega
          clear ht
          go_wp2
          all_goals first
            | (go_ret; exact ⟨anyBool _, rfl⟩)
            | (go_roundg (ys.length - (k + 1)); (case measure => rw [HG.out]; omega); (case rel => exact ⟨k + 1, _, rfl, by omega, by go_num, rfl, rfl⟩))
        · obtain rfl : k = ys.length := by omega
          go_wp2
          go_ret
          exact ⟨anyBool _, rfl⟩

/-- One script stays while the other takes a statement. -/
theorem Scr.other {w w' : World} {s1 s2 lo : Nat} {own1 own2 : Option Nat} {ts : List ByteArray} (h : Scr w s2 lo own2 ts) (hF : Fr2 w w' s1 own1) (hne : s2 ≠ s1) (h1 : s1 < lo) (hf : ∀ g, own1 = some g → lo ≤ g) (hd : ∀ g, own1 = some g → own2 ≠ some g) : Scr w' s2 lo own2 ts := by
  refine h.same (hF.block s2 h.sz hne (fun e => ?_)) (fun g hg => hF.block g (h.own_lt g hg) (fun e => ?_) (fun e => ?_)) hF.size
  · have := hf s2 e.symm; have := h.lo; omega
  · have := h.far g hg; omega
  · exact hd g e.symm hg
end Go.Proofs.Qxb6604683a
