import Derived.Test.Qxb6603827aBuf
namespace Go.Proofs.Qxb6603827a
open Go.RowKit

theorem src_true (w : World) : Src Try.prog 1 9 (.string ⟨#[116, 114, 117, 101]⟩) ([116, 114, 117, 101] : List Int).length (([116, 114, 117, 101] : List Int).map (Value.int .u8)) w :=
  Src.ofString w Try.underlying9 ⟨#[116, 114, 117, 101]⟩
theorem src_false (w : World) : Src Try.prog 1 9 (.string ⟨#[102, 97, 108, 115, 101]⟩) ([102, 97, 108, 115, 101] : List Int).length (([102, 97, 108, 115, 101] : List Int).map (Value.int .u8)) w :=
  Src.ofString w Try.underlying9 ⟨#[102, 97, 108, 115, 101]⟩

set_option maxHeartbeats 400000 in
theorem word_any (b : Bool) (db cap n : Nat) (zs : List Int) (w : World) (hn : zs.length = n) (hbuf : Buf w db cap zs) (hfit : n + 5 ≤ cap) :
    Calls Try.prog 18 #[.slice (some ⟨db, 0, none⟩) n cap, .bool b] w fun e w' => ∃ n', e = .returned (.slice (some ⟨db, 0, none⟩) n' cap) ∧ (zs ++ wordOf b).length = n' ∧ Buf w' db cap (zs ++ wordOf b) ∧ Below db w w' := by
  have HN : Hid (zs.length = n) := hn
  clear hn
  cases b
  · go_enter Try.func18, Try.ntmps18
    go_wp2_with (at_builtin; refine wpList_append_buf _ rfl _ _ 9 rfl db cap _ zs [102, 97, 108, 115, 101] rfl HN.out hbuf _ rfl (src_false _) (by rw [HN.out]; simpa using hfit) ?_)
    intro w' hb' hbe
    go_wp2
    go_ret
    exact ⟨_, rfl, by simp [wordOf], hb', hbe⟩
  · go_enter Try.func18, Try.ntmps18
    go_wp2_with (at_builtin; refine wpList_append_buf _ rfl _ _ 9 rfl db cap _ zs [116, 114, 117, 101] rfl HN.out hbuf _ rfl (src_true _) (by rw [HN.out]; simp; omega) ?_)
    intro w' hb' hbe
    go_wp2
    go_ret
    exact ⟨_, rfl, by simp [wordOf], hb', hbe⟩
end Go.Proofs.Qxb6603827a
