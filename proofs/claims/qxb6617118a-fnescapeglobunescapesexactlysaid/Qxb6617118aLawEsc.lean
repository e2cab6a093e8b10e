import Derived.Test.Qxb6617118aEsc
namespace Go.Proofs.Qxb6617118a
open Go.RowKit

theorem bytes_back (s : ByteArray) : (⟨s.data.toList.toArray⟩ : ByteArray) = s := by simp
theorem bytes_size (l : List UInt8) : (⟨l.toArray⟩ : ByteArray).size = l.length := by simp [ByteArray.size]
theorem bytes_list (l : List UInt8) : (⟨l.toArray⟩ : ByteArray).data.toList = l := rfl
theorem eg_size (s : ByteArray) : (⟨(Plain.eg s.data.toList).toArray⟩ : ByteArray).size ≤ 2 * s.size := by
  rw [bytes_size]; have := Plain.eg_len s.data.toList; rw [size_list] at this; exact this

set_option maxHeartbeats 1000000 in
set_option maxRecDepth 100000 in
theorem law_unesc (s : ByteArray) (hs : s.size ≤ maxLen) (w : World) :
    Calls Try.prog 3 #[.string s] w fun e w' => e = .returned (.bool true) ∧ Below w.heap.size w w' := by
  by_cases h : s.size ≤ 1048576
  · have HD : Hid (decide (s.size ≤ 1048576) = true) := by show decide (s.size ≤ 1048576) = true; simpa using h
    have HM : Hid (s.size ≤ maxLen) := hs
    clear hs
    go_enter Try.func3, Try.ntmps3
    go_wp2_with (go_at_call 7; refine (bytes3_any s _ HM.out).mono ?_; rintro e w' ⟨rfl, rfl⟩; rw [HD.out])
    refine (zesc_any s _ (by omega)).mono ?_
    rintro e w1 ⟨rfl, hb1⟩
    go_wp2_with fail
    refine (strict_any _ s.data.toList _ (Nat.le_trans (eg_size s) (by omega)) (by rw [bytes_list]; exact Plain.su_eg _)).mono ?_
    rintro e w2 ⟨rfl, hb2⟩
    rw [bytes_back]
    go_wp2
    go_ret
    exact ⟨by simp, hb1.trans (hb2.mono hb1.size)⟩
  · have HD : Hid (decide (s.size ≤ 1048576) = false) := by show decide (s.size ≤ 1048576) = false; simpa using h
    go_enter Try.func3, Try.ntmps3
    go_wp2_with (go_at_call 7; refine (bytes3_any s _ hs).mono ?_; rintro e w' ⟨rfl, rfl⟩; rw [HD.out])
    go_ret
    exact ⟨rfl, Below.refl _ _⟩
end Go.Proofs.Qxb6617118a
