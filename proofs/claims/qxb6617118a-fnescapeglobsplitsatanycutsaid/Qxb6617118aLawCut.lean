import Derived.Test.Qxb6617118aLawEsc
namespace Go.Proofs.Qxb6617118a
open Go.RowKit

theorem append_list (a b : ByteArray) : (a ++ b).data.toList = a.data.toList ++ b.data.toList := by simp

theorem esc_append (a b : List UInt8) : ((⟨(Plain.eg a).toArray⟩ : ByteArray) ++ (⟨(Plain.eg b).toArray⟩ : ByteArray)).toList = Plain.eg (a ++ b) := by
  rw [Lib.toList_data, append_list, bytes_list, bytes_list, Plain.eg_append]

theorem ret_bool {a b : Bool} (h : a = b) : Ending.returned (.bool a) = .returned (.bool b) := by rw [h]
theorem beq_esc (a b : List UInt8) : (Plain.eg (a ++ b) == ((⟨(Plain.eg a).toArray⟩ : ByteArray) ++ (⟨(Plain.eg b).toArray⟩ : ByteArray)).toList) = true := by
  rw [esc_append]; simp

set_option maxHeartbeats 2000000 in
set_option maxRecDepth 100000 in
theorem law_cut (a : ByteArray) (ha : a.size ≤ maxLen) (b : ByteArray) (hb : b.size ≤ maxLen) (w : World) :
    Calls Try.prog 4 #[.string a, .string b] w fun e w' => e = .returned (.bool true) ∧ Below w.heap.size w w' := by
  have HA : Hid (a.size ≤ maxLen) := ha
  have HB : Hid (b.size ≤ maxLen) := hb
  unfold maxLen at ha hb
  rcases (Bool.eq_false_or_eq_true (okTwo a.size b.size)).symm with hok | hok
  · have HO : Hid (okTwo a.size b.size = false) := hok
    clear hok
    go_enter Try.func4, Try.ntmps4
    go_wp2_with (go_at_call 10; refine (bytes4_any a b _ HA.out HB.out).mono ?_; rintro e w' ⟨rfl, rfl⟩; rw [HO.out])
    go_ret
    exact ⟨rfl, Below.refl _ _⟩
  · have HO : Hid (okTwo a.size b.size = true) := hok
    clear hok
    by_cases h1 : a.size ≤ 524288
    · by_cases h2 : b.size ≤ 524288
      · have hab : (a ++ b).size ≤ 1048576 := by rw [ByteArray.size_append]; omega
        have HS : Hid ((a ++ b).size ≤ 1048576) := hab
        clear hab
        go_enter Try.func4, Try.ntmps4
        go_wp2_with (go_at_call 10; refine (bytes4_any a b _ HA.out HB.out).mono ?_; rintro e w' ⟨rfl, rfl⟩; rw [HO.out])
        refine (zesc_any (a ++ b) _ (by have := HS.out; omega)).mono ?_
        rintro e w1 ⟨rfl, hb1⟩
        go_wp2_with fail
        refine (strict_any _ (a ++ b).data.toList _ (Nat.le_trans (eg_size (a ++ b)) (by have := HS.out; omega)) (by rw [bytes_list]; exact Plain.su_eg _)).mono ?_
        rintro e w2 ⟨rfl, hb2⟩
        rw [bytes_back]
        go_wp2_with fail
        refine (zesc_any a _ (by omega)).mono ?_
        rintro e w3 ⟨rfl, hb3⟩
        go_wp2_with fail
        refine (zesc_any b _ (by omega)).mono ?_
        rintro e w4 ⟨rfl, hb4⟩
        have ea : (Plain.eg a.data.toList).length ≤ 1048576 := by have := Plain.eg_len a.data.toList; rw [size_list] at this; omega
        have eb : (Plain.eg b.data.toList).length ≤ 1048576 := by have := Plain.eg_len b.data.toList; rw [size_list] at this; omega
        go_wp2
        go_ret
        exact ⟨ret_bool (beq_esc _ _), ((hb1.trans (hb2.mono hb1.size)).trans (hb3.mono (Nat.le_trans hb1.size hb2.size))).trans (hb4.mono (Nat.le_trans (Nat.le_trans hb1.size hb2.size) hb3.size))⟩
      · go_enter Try.func4, Try.ntmps4
        go_wp2_with (go_at_call 10; refine (bytes4_any a b _ HA.out HB.out).mono ?_; rintro e w' ⟨rfl, rfl⟩; rw [HO.out])
        go_ret
        exact ⟨rfl, Below.refl _ _⟩
    · go_enter Try.func4, Try.ntmps4
      go_wp2_with (go_at_call 10; refine (bytes4_any a b _ HA.out HB.out).mono ?_; rintro e w' ⟨rfl, rfl⟩; rw [HO.out])
      go_ret
      exact ⟨rfl, Below.refl _ _⟩
end Go.Proofs.Qxb6617118a
