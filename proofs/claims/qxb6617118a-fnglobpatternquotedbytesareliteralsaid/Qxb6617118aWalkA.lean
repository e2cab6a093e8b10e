import Derived.Test.Qxb6617118aProg
import Derived.Test.Qxb6617118aPlain
import Derived.WalkKit
import Derived.WalkSpells
import Derived.WalkLawsBesides
namespace Go.Proofs.Qxb6617118a
open Go.RowKit

theorem beq_u8 (c d : UInt8) : ((c.toNat : Int) == (d.toNat : Int)) = (c == d) := by
  rw [Bool.eq_iff_iff, beq_iff_eq, beq_iff_eq, ← UInt8.toNat_inj]; omega

set_option maxHeartbeats 400000 in
/-- zzIsGlobB1 -/
theorem isGlob_any (c : UInt8) (w : World) :
    Calls Try.prog 16 #[.int .u8 c.toNat] w fun e w' => e = .returned (.bool (Plain.isGlob c)) ∧ w' = w := by
  have h42 := beq_u8 c 42
  have h63 := beq_u8 c 63
  have h91 := beq_u8 c 91
  have h92 := beq_u8 c 92
  simp at h42 h63 h91 h92
  go_enter Try.func16, Try.ntmps16
  go_wp2
  all_goals
    go_ret
    exact ⟨by simp [Plain.isGlob, *], rfl⟩

set_option maxHeartbeats 400000 in
theorem bytes5_any (s : ByteArray) (w : World) (hs : s.size ≤ maxLen) :
    Calls Try.prog 11 #[.string s] w fun e w' => e = .returned (.bool (decide (s.size ≤ 1048576))) ∧ w' = w := by
  unfold maxLen at hs
  by_cases h : s.size ≤ 1048576
  · have hd : decide (s.size ≤ 1048576) = true := by simpa using h
    rw [hd]
    go_enter Try.func11, Try.ntmps11
    go_wp2
    go_ret
    exact ⟨rfl, rfl⟩
  · have hd : decide (s.size ≤ 1048576) = false := by simpa using h
    rw [hd]
    go_enter Try.func11, Try.ntmps11
    go_wp2
    go_ret
    exact ⟨rfl, rfl⟩
end Go.Proofs.Qxb6617118a
