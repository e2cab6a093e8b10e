import Derived.Test.Qxb6617118aLawEsc
namespace Go.Proofs.Qxb6617118a
open Go.RowKit

theorem bs_snoc (l : List UInt8) (c : UInt8) : Plain.bs (l ++ [c]) = Plain.bs l ++ [92, c] := by simp [Plain.bs]
theorem take_snoc (s : ByteArray) (k : Nat) (h : k < s.size) : s.data.toList.take (k + 1) = s.data.toList.take k ++ [s[k]] := by
  rw [List.take_succ_eq_append_getElem (by simpa using h)]; rfl

set_option maxHeartbeats 2000000 in
set_option maxRecDepth 100000 in
theorem law_lit (s : ByteArray) (hs : s.size ≤ maxLen) (w : World) :
    Calls Try.prog 6 #[.string s] w fun e w' => e = .returned (.bool true) ∧ Below w.heap.size w w' := by
  obtain ⟨i0, hi, hz0, hz1, hz2⟩ := info_parts Try.info5
  have HM : Hid (s.size ≤ maxLen) := hs
  unfold maxLen at hs
  by_cases h : s.size ≤ 1048576
  · have HD : Hid (decide (s.size ≤ 1048576) = true) := by show decide (s.size ≤ 1048576) = true; simpa using h
    by_cases h2 : s.size ≤ 524288
    · go_enter Try.func6, Try.ntmps6
      go_wp2_with (first
        | (go_at_call 14; refine (bytes6_any s _ HM.out).mono ?_; rintro e w' ⟨rfl, hw⟩; rw [HD.out, hw])
        | (at_make; refine wpList_make_own _ rfl _ _ 27 rfl w.heap.size 5 i0 (.int .u8 0) 1 Try.underlying27 hi hz0 hz1 _ _ _ (2 * s.size) rfl rfl (by omega) (by rw [hz2]; omega) (by unfold maxLen; omega) (Nat.le_refl _) ?_; intro w0 hown0 hgrow0))
      go_loopw [3, 4] (fun out sj wr => ∃ (k : Nat) (acc : List UInt8), k ≤ s.size ∧ sj = .int .i64 k ∧
          out = .slice (some ⟨w.heap.size, 0, none⟩) acc.length (2 * s.size) ∧ wr.ownsRow w.heap.size 5 1 (.slice (some ⟨w.heap.size, 0, none⟩) acc.length (2 * s.size)) acc.length (Lib.byteCells acc) ∧ acc.length = 2 * k ∧
          acc = Plain.bs (s.data.toList.take k) ∧ Below w.heap.size w wr)
        (fun _ sj _ => s.size - (intOf sj).toNat)
      case atStart => exact ⟨0, [], Nat.zero_le _, rfl, rfl, hown0, rfl, rfl, (Below.refl _ _).grown hgrow0 (Nat.le_refl _) (fun k h => by cases h)⟩
      case round =>
        obtain ⟨k, acc, hk, rfl, rfl, hown, hal, hx, hnx⟩ := hrel
        have hsz := hnx.size
        have hal' : acc.length ≤ 2 * k := by omega
        have HL : Hid (acc.length = 2 * k) := hal
        have HX : Hid (acc = Plain.bs (s.data.toList.take k)) := hx
        clear hal hx
        by_cases hlt : k < s.size
        · obtain ⟨c, hc⟩ : ∃ c : UInt8, s[k]'hlt = c := ⟨_, rfl⟩
          go_wp2_with (at_builtin; refine wpList_append_fits _ rfl (.tmp 24) (.tmp 28) 27 rfl w.heap.size 5 i0 1 Try.underlying27 hi hz1 w.heap.size acc.length (2 * s.size) _ rfl (hown.alloc _) ⟨_, 0, none⟩ 2 2 [.int .u8 92, .int .u8 c.toNat] rfl rfl cell_two (two_u8 _ _) (by omega) ?_; intro w1 hown1 hgrow1)
          go_roundw
          case rel => exact ⟨k + 1, acc ++ [92, c], by omega, by go_num, by simp, by simpa [Lib.byteCells] using hown1, by simp [HL.out]; omega, by
              rw [take_snoc s k hlt, hc, bs_snoc, ← HX.out], (hnx.alloc hsz _).grown hgrow1 (by simp; omega) (fun k hk => by cases hk; exact Nat.le_refl _)⟩
          case measure => simp [intOf]; omega
        · have hcv := run_convert_bytes_back (P := Try.prog) wr 27 9 5 ⟨w.heap.size, 0, none⟩ (2 * s.size) acc Try.underlying27 Try.underlying5 Try.underlying9 (own_bytes hown)
          have HQ : Hid (acc = Plain.bs s.data.toList) := by
            have := HX.out
            rw [List.take_of_length_le (by rw [size_list]; omega)] at this
            exact this
          have HG : Hid ((⟨(Plain.gp (⟨acc.toArray⟩ : ByteArray).data.toList).toArray⟩ : ByteArray) = ⟨(Plain.eg s.data.toList).toArray⟩) := by
            show (⟨(Plain.gp (⟨acc.toArray⟩ : ByteArray).data.toList).toArray⟩ : ByteArray) = ⟨(Plain.eg s.data.toList).toArray⟩
            rw [bytes_list, HQ.out, Plain.gp_bs]
          go_wp2_with fail
          refine (zglob_any _ _ (by rw [bytes_size]; omega)).mono ?_
          rintro e w1 ⟨rfl, hb1⟩
          rw [HG.out]
          go_wp2_with fail
          refine (strict_any _ s.data.toList _ (Nat.le_trans (eg_size s) (by omega)) (by rw [bytes_list]; exact Plain.su_eg _)).mono ?_
          rintro e w2 ⟨rfl, hb2⟩
          rw [bytes_back]
          go_wp2_with fail
          refine (zesc_any s _ (by omega)).mono ?_
          rintro e w3 ⟨rfl, hb3⟩
          go_wp2
          go_ret
          exact ⟨by simp, hnx.trans (((hb1.mono hsz).trans (hb2.mono (Nat.le_trans hsz hb1.size))).trans (hb3.mono (Nat.le_trans (Nat.le_trans hsz hb1.size) hb2.size)))⟩
    · go_enter Try.func6, Try.ntmps6
      go_wp2_with (go_at_call 14; refine (bytes6_any s _ HM.out).mono ?_; rintro e w' ⟨rfl, rfl⟩; rw [HD.out])
      go_ret
      exact ⟨rfl, Below.refl _ _⟩
  · have HD : Hid (decide (s.size ≤ 1048576) = false) := by show decide (s.size ≤ 1048576) = false; simpa using h
    go_enter Try.func6, Try.ntmps6
    go_wp2_with (go_at_call 14; refine (bytes6_any s _ HM.out).mono ?_; rintro e w' ⟨rfl, rfl⟩; rw [HD.out])
    go_ret
    exact ⟨rfl, Below.refl _ _⟩
end Go.Proofs.Qxb6617118a
