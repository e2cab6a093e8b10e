import Derived.Test.Qxb6617118aGlob
namespace Go.Proofs.Qxb6617118a
open Go.RowKit

set_option maxHeartbeats 1000000 in
set_option maxRecDepth 100000 in
theorem law_runs (s : ByteArray) (hs : s.size ≤ maxLen) (w : World) :
    Calls Try.prog 5 #[.string s] w fun e w' => e = .returned (.bool true) ∧ Below w.heap.size w w' := by
  by_cases h : s.size ≤ 1048576
  · have hd : decide (s.size ≤ 1048576) = true := by simpa using h
    have HD : Hid (decide (s.size ≤ 1048576) = true) := hd
    clear hd
    have HM : Hid (s.size ≤ maxLen) := hs
    clear hs
    go_enter Try.func5, Try.ntmps5
    go_wp2_with (first
      | (go_at_call 11; refine (bytes5_any s _ HM.out).mono ?_; rintro e w' ⟨rfl, rfl⟩; rw [HD.out])
      | (go_at_call 12; refine (zglob_any s _ (by omega)).mono ?_; rintro e w1 ⟨rfl, hb1⟩; rw [Plain.gp_br])
      | (go_at_call 13; refine (bash_any s _ (by omega)).mono ?_; rintro e w2 ⟨rfl, hb2⟩))
    go_ret
    exact ⟨by simp, hb1.trans (hb2.mono hb1.size)⟩
  · have hd : decide (s.size ≤ 1048576) = false := by simpa using h
    have HD : Hid (decide (s.size ≤ 1048576) = false) := hd
    clear hd
    go_enter Try.func5, Try.ntmps5
    go_wp2_with (go_at_call 11; refine (bytes5_any s _ hs).mono ?_; rintro e w' ⟨rfl, rfl⟩; rw [HD.out])
    go_ret
    exact ⟨rfl, Below.refl _ _⟩
end Go.Proofs.Qxb6617118a
