import Derived.Test.Qxb6616715aProg
import Derived.WalkKit
import Derived.WalkSpells
import Derived.WalkLawsBesides
namespace Go.Proofs.Qxb6616715a
open Go.RowKit

/-- isKeyByte, of a byte as a number. -/
def kb (b : Int) : Bool := decide (97 ≤ b ∧ b ≤ 122) || decide (65 ≤ b ∧ b ≤ 90) || decide (48 ≤ b ∧ b ≤ 57) || decide (0 ≤ firstIdx ⟨#[47, 95, 46, 58]⟩ b.toNat.toUInt8)
/-- zzIsASCIILetter. -/
def al (b : Int) : Bool := decide (97 ≤ b ∧ b ≤ 122) || decide (65 ≤ b ∧ b ≤ 90)

theorem ret_bool {a b : Bool} (h : a = b) : Ending.returned (.bool a) = .returned (.bool b) := by rw [h]

set_option maxHeartbeats 400000 in
theorem key_any (b : Int) (w : World) (h0 : 0 ≤ b) (h1 : b ≤ 255) :
    Calls Try.prog 11 #[.int .u8 b] w fun e w' => e = .returned (.bool (kb b)) ∧ w' = w := by
  have hx : ∀ w, (callFunc 14 #[.string ⟨#[47, 95, 46, 58]⟩, .int .u8 b]).run Try.prog w = _ := fun w => by
    rw [run_callFunc_indexByte Try.func14 (by kernel_rfl) (by kernel_rfl) (by kernel_rfl) (by kernel_rfl), run_indexByte_string]
  go_enter Try.func11, Try.ntmps11
  go_wp2
  all_goals
    clear hx
    go_ret
    exact ⟨ret_bool (by rw [Bool.eq_iff_iff]; simp [kb]; try omega), rfl⟩

set_option maxHeartbeats 400000 in
theorem zkey_any (b : Int) (w : World) (h0 : 0 ≤ b) (h1 : b ≤ 255) :
    Calls Try.prog 8 #[.int .u8 b] w fun e w' => e = .returned (.bool (kb b)) ∧ w' = w := by
  go_enter Try.func8, Try.ntmps8
  go_wp2_with (go_at_call 11; refine (key_any b _ h0 h1).mono ?_; rintro e w' ⟨rfl, rfl⟩)
  go_ret
  exact ⟨rfl, rfl⟩

set_option maxHeartbeats 400000 in
theorem letter_any (b : Int) (w : World) :
    Calls Try.prog 9 #[.int .u8 b] w fun e w' => e = .returned (.bool (al b)) ∧ w' = w := by
  go_enter Try.func9, Try.ntmps9
  go_wp2
  all_goals
    go_ret
    exact ⟨ret_bool (by rw [Bool.eq_iff_iff]; simp [al]; try omega), rfl⟩

theorem all256 : ∀ n : Fin 256,
    (al (n.val : Int) = true → kb (n.val : Int) = true ∧ kb (bits .xor .u8 (n.val : Int) 32) = true ∧ 0 ≤ bits .xor .u8 (n.val : Int) 32 ∧ bits .xor .u8 (n.val : Int) 32 ≤ 255) ∧
    (kb (n.val : Int) = true → kb (bits .xor .u8 (n.val : Int) 128) = false ∧ (n.val : Int) < 128 ∧ 32 < (n.val : Int) ∧ (n.val : Int) ≠ 127) ∧
    (kb (n.val : Int) = false → ¬ (48 ≤ (n.val : Int) ∧ (n.val : Int) ≤ 57)) ∧ 0 ≤ bits .xor .u8 (n.val : Int) 128 ∧ bits .xor .u8 (n.val : Int) 128 ≤ 255 := by
  decide +kernel

theorem facts (b : Int) (h0 : 0 ≤ b) (h1 : b ≤ 255) :
    (al b = true → kb b = true ∧ kb (bits .xor .u8 b 32) = true ∧ 0 ≤ bits .xor .u8 b 32 ∧ bits .xor .u8 b 32 ≤ 255) ∧
    (kb b = true → kb (bits .xor .u8 b 128) = false ∧ b < 128 ∧ 32 < b ∧ b ≠ 127) ∧
    (kb b = false → ¬ (48 ≤ b ∧ b ≤ 57)) ∧ 0 ≤ bits .xor .u8 b 128 ∧ bits .xor .u8 b 128 ≤ 255 := by
  obtain ⟨n, rfl⟩ := Int.eq_ofNat_of_zero_le h0
  exact all256 ⟨n, by omega⟩

set_option maxHeartbeats 1000000 in
theorem law_any (b : Int) (w : World) (h0 : 0 ≤ b) (h1 : b ≤ 255) :
    Calls Try.prog 4 #[.int .u8 b] w fun e w' => e = .returned (.bool true) ∧ w' = w := by
  obtain ⟨f1, f2, f3, f4, f5⟩ := facts b h0 h1
  have HX : Hid (0 ≤ bits .xor .u8 b 128 ∧ bits .xor .u8 b 128 ≤ 255) := ⟨f4, f5⟩
  clear f4 f5
  cases hk : kb b
  · have hd := f3 hk
    have ha : al b = false := by
      cases ha : al b with
      | false => rfl
      | true => rw [(f1 ha).1] at hk; cases hk
    clear f1 f2 f3
    have hd' : 57 < b ∨ b < 48 := by omega
    clear hd
    go_enter Try.func4, Try.ntmps4
    go_wp2_with fail
    refine (zkey_any b _ h0 h1).mono ?_
    rintro e w1 ⟨rfl, rfl⟩
    rw [hk]
    go_wp2_with fail
    refine (letter_any b _).mono ?_
    rintro e w2 ⟨rfl, rfl⟩
    rw [ha]
    go_wp2_with fail
    refine (zkey_any b _ h0 h1).mono ?_
    rintro e w3 ⟨rfl, rfl⟩
    rw [hk]
    go_wp2_with fail
    refine (zkey_any _ _ HX.out.1 HX.out.2).mono ?_
    rintro e w4 ⟨rfl, rfl⟩
    generalize kb (bits .xor .u8 b 128) = q
    go_wp2_with fail
    refine (letter_any b _).mono ?_
    rintro e w5 ⟨rfl, rfl⟩
    rw [ha]
    rcases hd' with hd | hd
    all_goals
      go_wp2
      all_goals
        go_ret
        exact ⟨rfl, rfl⟩
  · obtain ⟨g1, g2, g3, g4⟩ := f2 hk
    have HG : Hid (kb (bits .xor .u8 b 128) = false) := g1
    have h127 : (b == 127) = false := beq_eq_false_iff_ne.2 g4
    clear g1 g4 f2 f3
    cases ha : al b
    · clear f1
      go_enter Try.func4, Try.ntmps4
      go_wp2_with fail
      refine (zkey_any b _ h0 h1).mono ?_
      rintro e w1 ⟨rfl, rfl⟩
      rw [hk]
      go_wp2_with fail
      refine (letter_any b _).mono ?_
      rintro e w2 ⟨rfl, rfl⟩
      rw [ha]
      go_wp2_with fail
      refine (zkey_any b _ h0 h1).mono ?_
      rintro e w3 ⟨rfl, rfl⟩
      rw [hk]
      go_wp2_with fail
      refine (zkey_any _ _ HX.out.1 HX.out.2).mono ?_
      rintro e w4 ⟨rfl, rfl⟩
      rw [HG.out]
      go_wp2_with fail
      refine (letter_any b _).mono ?_
      rintro e w5 ⟨rfl, rfl⟩
      rw [ha]
      go_wp2
      all_goals
        go_ret
        exact ⟨rfl, rfl⟩
    · obtain ⟨_, k1, k2, k3⟩ := f1 ha
      have HP : Hid (kb (bits .xor .u8 b 32) = true) := k1
      have HQ : Hid (0 ≤ bits .xor .u8 b 32 ∧ bits .xor .u8 b 32 ≤ 255) := ⟨k2, k3⟩
      clear f1 k1 k2 k3
      go_enter Try.func4, Try.ntmps4
      go_wp2_with fail
      refine (zkey_any b _ h0 h1).mono ?_
      rintro e w1 ⟨rfl, rfl⟩
      rw [hk]
      go_wp2_with fail
      refine (letter_any b _).mono ?_
      rintro e w2 ⟨rfl, rfl⟩
      rw [ha]
      go_wp2_with fail
      refine (zkey_any _ _ HQ.out.1 HQ.out.2).mono ?_
      rintro e w3 ⟨rfl, rfl⟩
      rw [HP.out]
      go_wp2_with fail
      refine (zkey_any _ _ HX.out.1 HX.out.2).mono ?_
      rintro e w4 ⟨rfl, rfl⟩
      rw [HG.out]
      go_wp2_with fail
      refine (letter_any b _).mono ?_
      rintro e w5 ⟨rfl, rfl⟩
      rw [ha]
      go_wp2
      all_goals
        go_ret
        exact ⟨rfl, rfl⟩
end Go.Proofs.Qxb6616715a
