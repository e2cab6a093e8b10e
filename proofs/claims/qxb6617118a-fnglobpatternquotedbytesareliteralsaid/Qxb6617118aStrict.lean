import Derived.Test.Qxb6617118aBash
namespace Go.Proofs.Qxb6617118a
open Go.RowKit

set_option maxHeartbeats 2000000 in
set_option maxRecDepth 100000 in
/-- zzStrictUnescapeB1, of a text that it accepts. -/
theorem strict_any (s : ByteArray) (r : List UInt8) (w : World) (hs : s.size ≤ 16777216) (hsu : Plain.su s.data.toList = some r) :
    Calls Try.prog 9 #[.string s] w fun e w' => e = .returned (.tuple #[.string ⟨r.toArray⟩, .bool true]) ∧ Below w.heap.size w w' := by
  have HS : Hid (Plain.su s.data.toList = some r) := hsu
  clear hsu
  obtain ⟨i0, hi, hz0, hz1, hz2⟩ := info_parts Try.info5
  go_enter Try.func9, Try.ntmps9
  go_wp2_with (at_make; refine wpList_make_own _ rfl _ _ 27 rfl w.heap.size 5 i0 (.int .u8 0) 1 Try.underlying27 hi hz0 hz1 _ _ _ s.size rfl rfl (by omega) ?b2 ?b3 (Nat.le_refl _) ?_)
  case b2 => rw [hz2]; omega
  case b3 => unfold maxLen; omega
  intro w0 hown0 hgrow0
  go_wp2
  go_loopw [4, 5] (fun out sj wr => ∃ (k : Nat) (acc rest : List UInt8), k ≤ s.size ∧ sj = .int .i64 k ∧
      out = .slice (some ⟨w.heap.size, 0, none⟩) acc.length s.size ∧ wr.ownsRow w.heap.size 5 1 (.slice (some ⟨w.heap.size, 0, none⟩) acc.length s.size) acc.length (Lib.byteCells acc) ∧ acc.length ≤ k ∧
      Plain.su (s.data.toList.drop k) = some rest ∧ acc ++ rest = r ∧ Below w.heap.size w wr)
    (fun _ sj _ => s.size - (intOf sj).toNat)
  case atStart => exact ⟨0, [], r, Nat.zero_le _, rfl, rfl, hown0, Nat.le_refl _, HS.out, rfl, (Below.refl _ _).grown hgrow0 (Nat.le_refl _) (fun k h => by cases h)⟩
  case round =>
    obtain ⟨k, acc, rest, hk, rfl, rfl, hown, hal, hx, hxr, hnx⟩ := hrel
    have hsz := hnx.size
    by_cases hlt : k < s.size
    · obtain ⟨c, hc⟩ : ∃ c : UInt8, s[k]'hlt = c := ⟨_, rfl⟩
      have hst := Plain.su_cons c (s.data.toList.drop (k + 1)) rest (by rw [← hc, ← drop_at s k hlt]; exact hx)
      clear hx
      have HXR : Hid (acc ++ rest = r) := hxr
      clear hxr
      rcases hst with ⟨h9, d, t', x, ht, hd, hx, hrx⟩ | ⟨h9, hg, x, hx, hrx⟩
      · have h92 : ((c.toNat : Int) == 92) = true := by subst h9; rfl
        clear h9
        have hlt2 : k + 1 < s.size := by
          have := congrArg List.length ht
          simp at this; omega
        obtain ⟨d', hd'⟩ : ∃ d' : UInt8, s[k + 1]'hlt2 = d' := ⟨_, rfl⟩
        have ht2 := drop_at s (k + 1) hlt2
        rw [ht, hd'] at ht2
        obtain ⟨rfl, rfl⟩ := List.cons.inj ht2
        have HG : Hid (Plain.isGlob d = true) := hd
        have HXX : Hid (Plain.su (s.data.toList.drop (k + 1 + 1)) = some x) := hx
        have HRX : Hid (rest = d :: x) := hrx
        clear hd hx hrx ht ht2
        go_wp2_with (first
            | (go_at_call 16; refine (isGlob_any d _).mono ?_; rintro e w' ⟨rfl, rfl⟩; rw [HG.out])
            | (at_builtin; refine wpList_append_fits _ rfl (.tmp 32) (.tmp 37) 27 rfl w.heap.size 5 i0 1 Try.underlying27 hi hz1 w.heap.size acc.length s.size _ rfl (hown.alloc _) ⟨_, 0, none⟩ 1 1 [.int .u8 d.toNat] rfl rfl cell_one (one_u8 _) (by omega) ?_; intro w1 hown1 hgrow1))
        go_roundw
        case rel => exact ⟨k + 2, acc ++ [d], x, by omega, by go_num, by simp, by simpa [Lib.byteCells] using hown1, by simp; omega, HXX.out, by rw [← HXR.out, HRX.out]; simp,
            (hnx.alloc hsz _).grown hgrow1 (by simp; omega) (fun k hk => by cases hk; exact Nat.le_refl _)⟩
        case measure => simp [intOf]; omega
      · have h92 : ((c.toNat : Int) == 92) = false := by
          rw [show ((92 : Int)) = (((92 : UInt8).toNat : Nat) : Int) from rfl, beq_u8]; simp [h9]
        clear h9
        have HG : Hid (Plain.isGlob c = false) := hg
        have HXX : Hid (Plain.su (s.data.toList.drop (k + 1)) = some x) := hx
        have HRX : Hid (rest = c :: x) := hrx
        clear hg hx hrx
        go_wp2_with (first
            | (go_at_call 16; refine (isGlob_any c _).mono ?_; rintro e w' ⟨rfl, rfl⟩; rw [HG.out])
            | (at_builtin; refine wpList_append_fits _ rfl (.tmp 43) (.tmp 45) 27 rfl w.heap.size 5 i0 1 Try.underlying27 hi hz1 w.heap.size acc.length s.size _ rfl (hown.alloc _) ⟨_, 0, none⟩ 1 1 [.int .u8 c.toNat] rfl rfl cell_one (one_u8 _) (by omega) ?_; intro w1 hown1 hgrow1))
        go_roundw
        case rel => exact ⟨k + 1, acc ++ [c], x, by omega, by go_num, by simp, by simpa [Lib.byteCells] using hown1, by simp; omega, HXX.out, by rw [← HXR.out, HRX.out]; simp,
            (hnx.alloc hsz _).grown hgrow1 (by simp; omega) (fun k hk => by cases hk; exact Nat.le_refl _)⟩
        case measure => simp [intOf]; omega
    · have hcv := run_convert_bytes_back (P := Try.prog) wr 27 9 5 ⟨w.heap.size, 0, none⟩ s.size acc Try.underlying27 Try.underlying5 Try.underlying9 (own_bytes hown)
      rw [List.drop_of_length_le (by simp; omega)] at hx
      simp only [Plain.su, Option.some.injEq] at hx
      subst hx
      rw [List.append_nil] at hxr
      have HX : Hid (acc = r) := hxr
      clear hxr
      go_wp2
      go_ret2
      exact ⟨by rw [← HX.out]; rfl, hnx⟩
end Go.Proofs.Qxb6617118a
