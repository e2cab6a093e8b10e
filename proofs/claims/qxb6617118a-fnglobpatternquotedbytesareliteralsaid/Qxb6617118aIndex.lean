import Derived.Test.Qxb6617118aStrict
import Derived.Test.Qxb6617118aShelf
import Derived.Lib.OthersKept
import Derived.Lib.IndexAny
import Derived.Lib.IndexBytes
import Derived.Lib.DecodeN
import Derived.Laws.RangeString
import Derived.Laws.RangeAny
import Derived.Laws.Runes
import Derived.Deep.LoopGhost
import Derived.Deep.QuietTactic
import Derived.BigQuiet
import Derived.BigCall
namespace Go.Proofs.Qxb6617118a
open Go.RowKit

set_option maxHeartbeats 1000000 in
set_option maxRecDepth 100000 in
/-- strings.IndexRune, at U+FFFD, in a text of ASCII bytes. -/
theorem indexRune_err (s : ByteArray) (w : World) (hac : ∀ b ∈ s.data.toList, b.toNat < 128) :
    Calls Try.prog 29 #[.string s, .int .i32 65533] w fun e w' => e = .returned (.int .i64 (-1)) ∧ Below w.heap.size w w' := by
  have HA : Hid (∀ b ∈ s.data.toList, b.toNat < 128) := hac
  clear hac
  go_enter Try.func29, Try.ntmps29
  go_wp2
  go_loopg [5, 6] s.size (fun g _ _ wx => ∃ i : Nat, i + g = s.size ∧ wx = w.iter s i)
  case atStart => exact ⟨0, by omega, rfl⟩
  case round =>
    obtain ⟨i, hig, rfl⟩ := hrel
    cases gk with
    | zero =>
      obtain rfl : i = s.size := by omega
      have hnx := run_next_end (P := Try.prog) w s s.size
      go_wp2
      go_ret
      exact ⟨rfl, (Below.refl _ _).alloc (Nat.le_refl _) _⟩
    | succ g =>
      have hi : i < s.size := by omega
      obtain ⟨x, hx⟩ : ∃ x : UInt8, s[i]'hi = x := ⟨_, rfl⟩
      have hx128 : x.toNat < 128 := HA.out x (by rw [← hx]; exact Array.getElem_mem_toList (xs := s.data) hi)
      have hnx := fun ty => run_next_ascii (P := Try.prog) w s i ty hi (by rw [hx]; exact hx128)
      rw [hx] at hnx
      clear hx
      have hne : ((x.toNat : Int) == 65533) = false := beq_eq_false_iff_ne.2 (by omega)
      go_wp2
      go_roundg g
      case measure => omega
      case rel => exact ⟨i + 1, by omega, rfl⟩

set_option maxHeartbeats 1000000 in
set_option maxRecDepth 100000 in
/-- strings.IndexRune, at a valid rune beyond ASCII, in a text of ASCII bytes. -/
theorem indexRune_high (s : ByteArray) (r : Int) (w : World) (hr : 128 ≤ r) (hr2 : r ≤ 1114111) (hne : (r == 65533) = false) (hv : Lib.validRune r = true) (hac : ∀ b ∈ s.data.toList, b.toNat < 128) :
    Calls Try.prog 29 #[.string s, .int .i32 r] w fun e w' => e = .returned (.int .i64 (-1)) ∧ Below w.heap.size w w' := by
  have HA : Hid (∀ b ∈ s.data.toList, b.toNat < 128) := hac
  clear hac
  have HV : Hid (Lib.validRune r = true) := hv
  obtain ⟨e1, e2, e3⟩ := encode_facts r (by rw [validRune_eq]; exact hv) hr
  clear hv
  go_enter Try.func29, Try.ntmps29
  go_wp2_with (go_at_call 37; refine (Try.utf8_ValidRune r _).mono ?_; rintro e w' ⟨rfl, rfl⟩; rw [HV.out])
  generalize hrs : Utf8.encode r = rs at *
  go_step3
  go_wp2
  have hl1 : rs.size - 1 < rs.size := by omega
  obtain ⟨x, hx⟩ : ∃ x : UInt8, rs[rs.size - 1]'hl1 = x := ⟨_, rfl⟩
  have hx128 := e3 hl1
  rw [hx] at hx128
  clear e3 hrs
  go_loopw [9, 10] (fun i f wr => i = .int .i64 ((rs.size : Int) - 1) ∧ f = .int .i64 0 ∧ wr = w') (fun _ _ _ => 0)
  case atStart => exact ⟨rfl, rfl, rfl⟩
  case round =>
    obtain ⟨rfl, rfl, rfl⟩ := hrel
    by_cases hlt : rs.size - 1 < s.size
    · obtain ⟨y, hy⟩ : ∃ y : UInt8, s[rs.size - 1]'hlt = y := ⟨_, rfl⟩
      have hy128 : y.toNat < 128 := HA.out y (by rw [← hy]; exact Array.getElem_mem_toList (xs := s.data) hlt)
      have hltz : (rs.size : Int) - 1 < (s.size : Int) := by omega
      have hne2 : ((y.toNat : Int) != (x.toNat : Int)) = true := by rw [bne_iff_ne]; omega
      have hwr : IntKind.i64.wrap (rs.size : Int) = (rs.size : Int) := wrap_small _ (by omega) (by omega)
      have hle : (rs.size : Int) ≤ (s.size : Int) := by omega
      go_wp2
      go_step3
      go_wp2
      go_quiet (fail)
      go_wp2
      have HI : Hid (Lib.indexByte (s.extract rs.size s.size).data.toList ((x.toNat : Int)).toNat.toUInt8 = -1) := by
        have := firstIdx_ascii s rs.size s.size x HA.out (by omega)
        rw [Lib.firstIdx_eq] at this
        show Lib.indexByte (s.extract rs.size s.size).data.toList ((x.toNat : Int)).toNat.toUInt8 = -1
        simpa using this
      go_quiet ((go_at_call 25; refine (Try.strings_IndexByte _ _ _).mono ?_; rintro e w'' ⟨rfl, rfl⟩; exact ⟨rfl, _, rfl⟩))
      rw [HI.out]
      go_wp2
      rw [Exit.noGoto_ret]
      go_wp2
      rw [Exit.noGoto_ret]
      go_wp2
      go_ret
      exact ⟨rfl, by
        have h1 := below_drewN (Below.refl wr.heap.size wr) nq
        first | exact below_drewN h1 _ | exact below_drewN (Below.refl wr.heap.size wr) _⟩
    · have hltz : ¬ (rs.size : Int) - 1 < (s.size : Int) := by omega
      go_wp2
      go_ret
      exact ⟨rfl, Below.refl _ _⟩

theorem decodeN_wide (n b0 b1 b2 b3 : Nat) (_h : 128 ≤ b0) : 1 ≤ (Lib.decodeN n b0 b1 b2 b3).2 ∧
    (1 < (Lib.decodeN n b0 b1 b2 b3).2 → 1 < n ∧ 128 ≤ b1) ∧ (2 < (Lib.decodeN n b0 b1 b2 b3).2 → 2 < n ∧ 128 ≤ b2) ∧ (3 < (Lib.decodeN n b0 b1 b2 b3).2 → 3 < n ∧ 128 ≤ b3) ∧ (Lib.decodeN n b0 b1 b2 b3).2 ≤ 4 := by
  unfold Lib.decodeN
  repeat' split
  all_goals simp
  all_goals omega

theorem decodeN_valid (n b0 b1 b2 b3 : Nat) (h : 128 ≤ b0) (h2 : b0 < 256) : 128 ≤ (Lib.decodeN n b0 b1 b2 b3).1 ∧ Lib.validRune ((Lib.decodeN n b0 b1 b2 b3).1 : Int) = true ∧ (Lib.decodeN n b0 b1 b2 b3).1 ≤ 1114111 := by
  unfold Lib.decodeN Lib.validRune
  repeat' split
  all_goals simp
  all_goals omega

theorem get!_at (s : ByteArray) (i : Nat) (h : i < s.size) : s.get! i = s[i] := by
  simp [ByteArray.get!, getElem!_pos, h]
  rfl

/-- behind a byte of 128 or more: the rune is valid, and every byte that it takes is 128 or more. -/
theorem decode_wide (s : ByteArray) (i : Nat) (hi : i < s.size) (h : 128 ≤ (s[i]'hi).toNat) :
    1 ≤ (Utf8.decode s i).2 ∧ i + (Utf8.decode s i).2 ≤ s.size ∧ (∀ j, j < (Utf8.decode s i).2 → ∀ b, s.data.toList[i + j]? = some b → 128 ≤ b.toNat) ∧
    128 ≤ (Utf8.decode s i).1 ∧ Lib.validRune ((Utf8.decode s i).1 : Int) = true ∧ (Utf8.decode s i).1 ≤ 1114111 := by
  rw [Lib.decode_at]
  have h0 : 128 ≤ (s.get! i).toNat := by rw [get!_at s i hi]; exact h
  have hlt : (s.get! i).toNat < 256 := UInt8.toNat_lt _
  obtain ⟨a1, a2, a3, a4, a5⟩ := decodeN_wide (s.size - i) (s.get! i).toNat (s.get! (i + 1)).toNat (s.get! (i + 2)).toNat (s.get! (i + 3)).toNat h0
  obtain ⟨v1, v2, v3⟩ := decodeN_valid (s.size - i) (s.get! i).toNat (s.get! (i + 1)).toNat (s.get! (i + 2)).toNat (s.get! (i + 3)).toNat h0 hlt
  generalize Lib.decodeN (s.size - i) (s.get! i).toNat (s.get! (i + 1)).toNat (s.get! (i + 2)).toNat (s.get! (i + 3)).toNat = d at *
  refine ⟨a1, by omega, ?_, v1, v2, v3⟩
  intro j hj b hb
  have hjs : i + j < s.size := by
    have := (List.getElem?_eq_some_iff.1 hb).1
    simpa using this
  have hbe : b = s.get! (i + j) := by
    rw [get!_at s (i + j) hjs]
    have := Lib.data_getElem? s (i + j) hjs
    rw [this] at hb
    exact (Option.some.inj hb).symm
  rw [hbe]
  have : j = 0 ∨ j = 1 ∨ j = 2 ∨ j = 3 := by omega
  rcases this with rfl | rfl | rfl | rfl
  · exact h0
  · exact (a2 hj).2
  · exact (a3 hj).2
  · exact (a4 hj).2

/-- strings.IndexRune, at a valid rune beyond ASCII, U+FFFD too, in a text of ASCII bytes. -/
theorem indexRune_wide (s : ByteArray) (r : Nat) (w : World) (hr : 128 ≤ r) (hr2 : r ≤ 1114111) (hv : Lib.validRune (r : Int) = true) (hac : ∀ b ∈ s.data.toList, b.toNat < 128) :
    Calls Try.prog 29 #[.string s, .int .i32 r] w fun e w' => e = .returned (.int .i64 (-1)) ∧ Below w.heap.size w w' := by
  by_cases h : r = 65533
  · subst h; exact indexRune_err s w hac
  · exact indexRune_high s r w (by omega) (by omega) (beq_eq_false_iff_ne.2 (by omega)) hv hac

theorem noAny_wide {s chars : List UInt8} {i n : Nat} (h : Lib.NoAny s chars i) (hac : ∀ b ∈ chars, b.toNat < 128) (hw : ∀ j, j < n → ∀ b, s[i + j]? = some b → 128 ≤ b.toNat) : Lib.NoAny s chars (i + n) := by
  intro j b hj hb
  by_cases hji : j < i
  · exact h j b hji hb
  · have h1 := hw (j - i) (by omega) b (by rw [show i + (j - i) = j from by omega]; exact hb)
    cases hc : chars.contains b with
    | false => rfl
    | true =>
      have := hac b (by simpa using hc)
      omega

set_option maxHeartbeats 2000000 in
set_option maxRecDepth 100000 in
/-- strings.IndexAny, s of at most 8 bytes, whatever they are; chars: two or more ASCII bytes. -/
theorem indexAny_short (s chars : ByteArray) (w : World) (h2 : 2 ≤ chars.size) (h8 : s.size ≤ 8) (hac : ∀ b ∈ chars.data.toList, b.toNat < 128) :
    Calls Try.prog 20 #[.string s, .string chars] w fun e w' => e = .returned (.int .i64 (Lib.indexAny s.data.toList chars.data.toList)) ∧ Below w.heap.size w w' := by
  have HA : Hid (∀ b ∈ chars.data.toList, b.toNat < 128) := hac
  clear hac
  have hemp : chars.toList.isEmpty = false := by
    rw [Lib.toList_data]
    cases h : chars.data.toList with
    | nil => have := Lib.size_eq chars; rw [h, List.length_nil] at this; omega
    | cons _ _ => rfl
  have hn1 : ((chars.size : Int) == 1) = false := beq_eq_false_iff_ne.2 (by omega)
  have h8z : decide ((8 : Int) < (s.size : Int)) = false := decide_eq_false (by omega)
  go_enter Try.func20, Try.ntmps20
  go_wp2_with (go_at_call 30; refine (Try.strings_shouldUseASCIISet _ _).mono ?_; rintro e w' ⟨rfl, hw⟩; rw [hw, h8z])
  go_loopg [9, 10] s.size (fun g _ _ wx => ∃ i : Nat, i + g = s.size ∧ wx.heap[w.heap.size]? = some (.stringIter s i) ∧ Below w.heap.size w wx ∧ Lib.NoAny s.data.toList chars.data.toList i)
  case atStart => exact ⟨0, by omega, by simpa using World.iter_heap w s 0, (Below.refl _ _).alloc (Nat.le_refl _) _, Lib.NoAny.zero _ _⟩
  case round =>
    obtain ⟨i, hig, hit, hbw, hno⟩ := hrel
    have HN : Hid (Lib.NoAny s.data.toList chars.data.toList i) := hno
    have hsz : w.heap.size < wr.heap.size := (Array.getElem?_eq_some_iff.1 hit).1
    clear hno
    by_cases hi : i < s.size
    · obtain ⟨x, hx⟩ : ∃ x : UInt8, s[i]'hi = x := ⟨_, rfl⟩
      have Hx : Hid (s.data.toList[i]? = some x) := by show s.data.toList[i]? = some x; rw [← hx]; exact Lib.data_getElem? s i hi
      by_cases hx128 : x.toNat < 128
      · have hnx : ∀ ty, (Instr.next (.pointer (some ⟨w.heap.size, 0, none⟩)) true ty).run Try.prog wr = _ := fun ty => Lib.run_next_ascii_at wr w.heap.size s i ty hit hi (by rw [hx]; exact hx128)
        rw [hx] at hnx
        have hit2 := Lib.iterAt_heap wr w.heap.size s i (i + 1) hit
        have hbw2 := Lib.below_iterAt hbw (k := w.heap.size) (Nat.le_refl _) s (i + 1)
        clear hx hit hbw
        have hcon := Lib.contains_iff_indexByte chars.data.toList x
        have hback : ((x.toNat : Int)).toNat.toUInt8 = x := by simp
        cases hin : chars.data.toList.contains x
        · rw [hin] at hcon
          have hlt : ¬ ((0 : Int) ≤ Lib.indexByte chars.data.toList x) := of_decide_eq_false hcon.symm
          clear hcon
          go_wp2_with (go_at_call 29; refine (Try.strings_IndexRune_ascii _ _ _ (by omega) (by omega)).mono ?_; rintro e w' ⟨rfl, hw⟩; rw [hw, hback])
          go_roundg (s.size - (i + 1))
          case measure => omega
          case rel => exact ⟨i + 1, by omega, hit2, hbw2, HN.out.succ Hx.out hin⟩
        · rw [hin] at hcon
          have hge : (0 : Int) ≤ Lib.indexByte chars.data.toList x := of_decide_eq_true hcon.symm
          clear hcon
          go_wp2_with (go_at_call 29; refine (Try.strings_IndexRune_ascii _ _ _ (by omega) (by omega)).mono ?_; rintro e w' ⟨rfl, hw⟩; rw [hw, hback])
          go_ret
          exact ⟨by rw [Lib.indexAny_hit HN.out Hx.out hin]; rfl, hbw2⟩
      · have hnx : ∀ ty, (Instr.next (.pointer (some ⟨w.heap.size, 0, none⟩)) true ty).run Try.prog wr = _ := fun ty => Lib.run_next_any_at wr w.heap.size s i ty hit hi
        obtain ⟨d1, d2, d3, d4, d5, d6⟩ := decode_wide s i hi (by rw [hx]; omega)
        have HD : Hid (∀ j, j < (Utf8.decode s i).2 → ∀ b, s.data.toList[i + j]? = some b → 128 ≤ b.toNat) := d3
        have HV : Hid (Lib.validRune ((Utf8.decode s i).1 : Int) = true) := d5
        have hit2 := Lib.iterAt_heap wr w.heap.size s i (i + (Utf8.decode s i).2) hit
        have hbw2 := Lib.below_iterAt hbw (k := w.heap.size) (Nat.le_refl _) s (i + (Utf8.decode s i).2)
        have hsz2 : w.heap.size < (wr.iterAt w.heap.size s (i + (Utf8.decode s i).2)).heap.size := by rw [Lib.iterAt_size]; exact hsz
        clear d3 d5 hx hit hbw
        go_wp2_with (go_at_call 29; refine (indexRune_wide chars _ _ d4 d6 HV.out HA.out).mono ?_; rintro e W1 ⟨rfl, hb1⟩)
        go_roundg (s.size - (i + (Utf8.decode s i).2))
        case measure => omega
        case rel => exact ⟨i + (Utf8.decode s i).2, by omega, (hb1.block _ hsz2).trans hit2, hbw2.trans (hb1.mono (Nat.le_of_lt hsz2)), noAny_wide HN.out HA.out HD.out⟩
    · have hnx : ∀ ty, (Instr.next (.pointer (some ⟨w.heap.size, 0, none⟩)) true ty).run Try.prog wr = _ := fun ty => Lib.run_next_end_at wr w.heap.size s i ty hit hi
      go_wp2
      go_ret
      exact ⟨by rw [Lib.indexAny_none (by rw [← Lib.size_eq, show s.size = i from by omega]; exact HN.out)]; rfl, hbw⟩

theorem Try.info44 : (Try.prog.info? 44).map (fun i => (i.zero, i.size)) = some (some (.agg (Array.replicate 256 (.bool false))), 256) := by kernel_rfl

/-- strings.IndexAny, at every s; chars: two or more ASCII bytes. -/
theorem indexAny_any (s chars : ByteArray) (w : World) (h2 : 2 ≤ chars.size) (hs : s.size < 4294967281) (hcs : chars.size < 4294967281) (hac : ∀ b ∈ chars.data.toList, b.toNat < 128) :
    Calls Try.prog 20 #[.string s, .string chars] w fun e w' => e = .returned (.int .i64 (Lib.indexAny s.data.toList chars.data.toList)) ∧ Below w.heap.size w w' := by
  by_cases h8 : s.size ≤ 8
  · exact indexAny_short s chars w h2 h8 hac
  · refine (Try.strings_IndexAny_long (zero_of_info Try.info44).1 s chars w h2 (by omega) hs hcs (fun j b hb => hac b (List.mem_of_getElem? hb))).mono ?_
    rintro e w' ⟨he, hw⟩
    refine ⟨he, ?_⟩
    rw [hw]
    exact ((Below.refl _ _).alloc (Nat.le_refl _) _).alloc (by simp) _

set_option maxHeartbeats 1000000 in
/-- strings.ContainsAny, at every s; chars: two or more ASCII bytes. -/
theorem containsAny_any (s chars : ByteArray) (w : World) (h2 : 2 ≤ chars.size) (hs : s.size < 4294967281) (hcs : chars.size < 4294967281) (hac : ∀ b ∈ chars.data.toList, b.toNat < 128) :
    Calls Try.prog 24 #[.string s, .string chars] w fun e w' => e = .returned (.bool (Lib.containsAny s.data.toList chars.data.toList)) ∧ Below w.heap.size w w' := by
  have HA : Hid (∀ b ∈ chars.data.toList, b.toNat < 128) := hac
  clear hac
  go_enter Try.func24, Try.ntmps24
  go_wp2_with (go_at_call 20; refine (indexAny_any s chars _ h2 hs hcs HA.out).mono ?_; rintro e w' ⟨rfl, hw⟩)
  go_ret
  exact ⟨rfl, hw⟩
end Go.Proofs.Qxb6617118a
