import Derived.Test.Qxb6617118aIndex
namespace Go.Proofs.Qxb6617118a
open Go.RowKit

/-- a builder stays one where nothing that lay has turned. -/
theorem builder_below {T e : TypeId} {B b : Nat} {bs : List Value} {w w' : World} (h : Lib.IsBuilderF T e B b bs w) (hb : Below w.heap.size w w') : Lib.IsBuilderF T e B b bs w' := by
  have hk : ∀ p, Lib.BuilderAtF T e B b p bs w → Lib.BuilderAtF T e B b p bs w' := by
    rintro p ⟨h1, v, h2, h3, h4⟩
    refine ⟨h1, v, (hb.block b (Array.getElem?_eq_some_iff.1 h2).1).trans h2, ?_, h4⟩
    exact h3.kept (row := none) ⟨hb.os, hb.tape, hb.output, hb.size, fun k hk _ => hb.block k hk⟩ (by cases hv : v.ownBlock <;> simp)
  exact h.elim (fun x => .inl (hk _ x)) (fun x => .inr (hk _ x))

theorem indexByte_glob (d : UInt8) : decide (0 ≤ Lib.indexByte [42, 63, 91, 92] d) = Plain.isGlob d := by
  rw [← Lib.contains_iff_indexByte]
  simp only [Plain.isGlob, Bool.or_assoc, List.contains_cons, List.contains_nil, Bool.or_false]

theorem bytes_two : (⟨#[92, 91]⟩ : ByteArray).data.toList = [92, 91] := rfl

theorem containsAny_none {l cs : List UInt8} (h : Lib.containsAny l cs = false) : ∀ c ∈ l, cs.contains c = false := by
  have h1 : ¬ 0 ≤ Lib.indexAny l cs := of_decide_eq_false h
  intro c hc
  cases hcc : cs.contains c with
  | false => rfl
  | true =>
    exfalso
    clear h
    induction l with
    | nil => cases hc
    | cons b t ih =>
      rw [Lib.indexAny] at h1
      have hge := Lib.indexAny_ge cs t
      by_cases hb : cs.contains b = true
      · rw [if_pos hb] at h1; omega
      · rw [if_neg hb] at h1
        rcases List.mem_cons.1 hc with rfl | hc'
        · exact hb hcc
        · refine ih (fun h0 => ?_) hc'
          rw [if_neg (by simp; omega)] at h1
          omega

set_option maxHeartbeats 2000000 in
set_option maxRecDepth 100000 in
/-- globPattern -/
theorem glob_any (s : ByteArray) (w : World) (hs : s.size ≤ 16777216) :
    Calls Try.prog 17 #[.string s] w fun e w' => e = .returned (.string ⟨(Plain.gp s.data.toList).toArray⟩) ∧ Below w.heap.size w w' := by
  cases hcon : Lib.containsAny s.data.toList [92, 91]
  · have HP : Hid (Plain.gp s.data.toList = s.data.toList) := Plain.gp_plain _ (fun c hc => by
      have := containsAny_none hcon c hc
      simpa using this)
    have HC : Hid (Lib.containsAny s.data.toList [92, 91] = false) := hcon
    clear hcon
    go_enter Try.func17, Try.ntmps17
    go_wp2_with (go_at_call 24; refine (containsAny_any s ⟨#[92, 91]⟩ _ (by decide) (by omega) (by decide) (by decide)).mono ?_; rintro e w1 ⟨rfl, hb1⟩; rw [bytes_two, HC.out])
    go_ret
    exact ⟨by rw [HP.out]; rfl, hb1⟩
  · have HC : Hid (Lib.containsAny s.data.toList [92, 91] = true) := hcon
    clear hcon
    go_enter Try.func17, Try.ntmps17
    go_wp2_with (go_at_call 24; refine (containsAny_any s ⟨#[92, 91]⟩ _ (by decide) (by omega) (by decide) (by decide)).mono ?_; rintro e w1 ⟨rfl, hb1⟩; rw [bytes_two, HC.out])
    have hsz1 := hb1.size
    go_loopw [4] (fun si wr => ∃ (k : Nat) (acc : List UInt8), k ≤ s.size ∧ si = .int .i64 k ∧ Lib.IsBuilderF 31 5 w1.heap.size w1.heap.size (Lib.byteCells acc) wr ∧ Below w1.heap.size w1 wr ∧ acc.length ≤ 2 * k ∧ acc ++ Plain.gp (s.data.toList.drop k) = Plain.gp s.data.toList)
      (fun si _ => s.size - (intOf si).toNat)
    case atStart => exact ⟨0, [], Nat.zero_le _, rfl, Lib.IsBuilderF.of (Lib.fresh_isBuilder 31 5 w1), (Below.refl _ _).alloc (Nat.le_refl _) _, Nat.le_refl _, rfl⟩
    case round =>
      obtain ⟨k, acc, hk, rfl, hI, hbw, hal, hx⟩ := hrel
      have hszr := hbw.size
      by_cases hlt : k < s.size
      · obtain ⟨c, hc⟩ : ∃ c : UInt8, s[k]'hlt = c := ⟨_, rfl⟩
        have hd := drop_at s k hlt
        rw [hc] at hd
        rw [hd] at hx
        have HX : Hid (acc ++ Plain.gp (c :: s.data.toList.drop (k + 1)) = Plain.gp s.data.toList) := hx
        have HD : Hid (s.data.toList.drop k = c :: s.data.toList.drop (k + 1)) := hd
        clear hx hd
        by_cases h9 : c = 92
        · have h92 : ((c.toNat : Int) == 92) = true := by subst h9; rfl
          have H92 : Hid (c = 92) := h9
          clear h9
          by_cases hl : k + 1 = s.size
          · have hlb : ((k : Int) + 1 == (s.size : Int)) = true := beq_iff_eq.2 (by omega)
            have HL : Hid (k + 1 = s.size) := hl
            clear hl
            go_wp2_with (go_at_call 21; refine (Try.Builder_WriteString_k w1.heap.size w1.heap.size _ _ _ hI (by rw [Lib.byteCells_length]; show _ + 2 ≤ _; omega) hszr).mono ?_)
            rintro e W1 ⟨rfl, h1, b1, _⟩
            go_wp2
            go_roundw
            case rel => exact ⟨k + 1, acc ++ [92, 92], by omega, by go_num, by rw [Lib.byteCells_append]; exact Or.inr h1, hbw.trans b1, by simp; omega, by
                rw [List.drop_of_length_le (by simp; have := HL.out; omega), ← HX.out, List.drop_of_length_le (by simp; have := HL.out; omega), H92.out]
                simp [Plain.gp]⟩
            case measure => simp [intOf]; omega
          · have hlb : ((k : Int) + 1 == (s.size : Int)) = false := beq_eq_false_iff_ne.2 (by omega)
            have hlt2 : k + 1 < s.size := by omega
            clear hl
            obtain ⟨d, hd'⟩ : ∃ d : UInt8, s[k + 1]'hlt2 = d := ⟨_, rfl⟩
            have hd2 := drop_at s (k + 1) hlt2
            rw [hd'] at hd2
            have HY : Hid (acc ++ Plain.quoted d ++ Plain.gp (s.data.toList.drop (k + 2)) = Plain.gp s.data.toList) := by
              have := HX.out
              rw [hd2, H92.out, Plain.gp_two, ← List.append_assoc] at this
              exact this
            clear hd2
            have hgi := indexByte_glob d
            have hback : ((d.toNat : Int)).toNat.toUInt8 = d := by simp
            cases hg : Plain.isGlob d
            · rw [hg] at hgi
              have hlt0 : ¬ ((0 : Int) ≤ Lib.indexByte [42, 63, 91, 92] d) := of_decide_eq_false hgi
              have HG : Hid (Plain.isGlob d = false) := hg
              clear hgi hg
              go_wp2_with (first
                | (go_at_call 25; refine (Try.strings_IndexByte _ _ _).mono ?_; rintro e w' ⟨rfl, hw⟩; rw [hw, hback])
                | (go_at_call 22; refine (Try.Builder_WriteByte_k w1.heap.size w1.heap.size _ _ _ hI (by rw [Lib.byteCells_length]; omega) hszr).mono ?_; rintro e W1 ⟨rfl, h1, b1, _⟩))
              go_roundw
              case rel => exact ⟨k + 2, acc ++ [d], by omega, by go_num, by rw [Lib.byteCells_append]; exact Or.inr h1, hbw.trans b1, by simp; omega, by
                  have := HY.out
                  rw [Plain.quoted, HG.out] at this
                  exact this⟩
              case measure => simp [intOf]; omega
            · rw [hg] at hgi
              have hge0 : (0 : Int) ≤ Lib.indexByte [42, 63, 91, 92] d := of_decide_eq_true hgi
              have HG : Hid (Plain.isGlob d = true) := hg
              clear hgi hg
              go_wp2_with (go_at_call 25; refine (Try.strings_IndexByte _ _ _).mono ?_; rintro e w' ⟨rfl, hw⟩; rw [hw, hback])
              refine (Try.Builder_WriteByte_k w1.heap.size w1.heap.size _ _ _ hI (by rw [Lib.byteCells_length]; omega) hszr).mono ?_
              rintro e W1 ⟨rfl, h1, b1, _⟩
              go_wp2_with fail
              refine (Try.Builder_WriteByte_k w1.heap.size w1.heap.size _ _ _ (Or.inr h1) (by rw [List.length_append, Lib.byteCells_length]; simp; omega) (Nat.le_trans hszr b1.size)).mono ?_
              rintro e W2 ⟨rfl, h2, b2, _⟩
              go_wp2
              go_roundw
              case rel => exact ⟨k + 2, acc ++ [92, d], by omega, by go_num, Or.inr (by simpa [Lib.byteCells] using h2), (hbw.trans b1).trans b2, by simp; omega, by
                  have := HY.out
                  rw [Plain.quoted, HG.out] at this
                  exact this⟩
              case measure => simp [intOf]; omega
        · have h92 : ((c.toNat : Int) == 92) = false := by
            rw [show ((92 : Int)) = (((92 : UInt8).toNat : Nat) : Int) from rfl, beq_u8]; simp [h9]
          have H92 : Hid (¬ c = 92) := h9
          clear h9
          by_cases h1' : c = 91
          · have h91 : ((c.toNat : Int) == 91) = true := by subst h1'; rfl
            have H91 : Hid (c = 91) := h1'
            clear h1'
            cases hp : Lib.hasPrefix (s.extract k s.size).data.toList (⟨#[91, 33]⟩ : ByteArray).data.toList
            · have HP : Hid (Lib.hasPrefix (s.extract k s.size).data.toList (⟨#[91, 33]⟩ : ByteArray).data.toList = false) := hp
              clear hp
              go_wp2_with (first
                | (go_at_call 26; refine (Try.strings_HasPrefix _ _ _).mono ?_; rintro e w' ⟨rfl, hw⟩; rw [hw, HP.out])
                | (go_at_call 22; refine (Try.Builder_WriteByte_k w1.heap.size w1.heap.size _ _ _ hI (by rw [Lib.byteCells_length]; omega) hszr).mono ?_; rintro e W1 ⟨rfl, h1, b1, _⟩))
              go_roundw
              case rel => exact ⟨k + 1, acc ++ [c], by omega, by go_num, by rw [Lib.byteCells_append]; exact Or.inr h1, hbw.trans b1, by simp; omega, by
                  rw [List.append_assoc, ← Plain.gp_else c _ H92.out, HX.out]
                  rintro ⟨_, t', ht⟩
                  have := HP.out
                  rw [Lib.extract_to_end, HD.out, ht, H91.out] at this
                  simp [Lib.hasPrefix, List.isPrefixOf] at this⟩
              case measure => simp [intOf]; omega
            · have HP : Hid (Lib.hasPrefix (s.extract k s.size).data.toList (⟨#[91, 33]⟩ : ByteArray).data.toList = true) := hp
              rw [Lib.extract_to_end, HD.out] at hp
              obtain ⟨t', ht⟩ : ∃ t', s.data.toList.drop (k + 1) = 33 :: t' := by
                cases h : s.data.toList.drop (k + 1) with
                | nil => rw [h] at hp; simp [Lib.hasPrefix, List.isPrefixOf] at hp
                | cons a t => rw [h] at hp; simp [Lib.hasPrefix, List.isPrefixOf] at hp; exact ⟨t, by rw [hp.2]⟩
              have hlt2 : k + 1 < s.size := by
                have := congrArg List.length ht
                simp at this; omega
              have HT : Hid (s.data.toList.drop (k + 2) = t') := by
                have h2 := drop_at s (k + 1) hlt2
                rw [ht] at h2
                exact (List.cons.inj h2).2.symm
              have HTT : Hid (s.data.toList.drop (k + 1) = 33 :: t') := ht
              clear hp ht
              go_wp2_with (first
                | (go_at_call 26; refine (Try.strings_HasPrefix _ _ _).mono ?_; rintro e w' ⟨rfl, hw⟩; rw [hw, HP.out])
                | (go_at_call 21; refine (Try.Builder_WriteString_k w1.heap.size w1.heap.size _ _ _ hI (by rw [Lib.byteCells_length]; show _ + 2 ≤ _; omega) hszr).mono ?_; rintro e W1 ⟨rfl, h1, b1, _⟩))
              go_roundw
              case rel => exact ⟨k + 2, acc ++ [91, 94], by omega, by go_num, by rw [Lib.byteCells_append]; exact Or.inr h1, hbw.trans b1, by simp; omega, by
                  have := HX.out
                  rw [HTT.out, H91.out, Plain.gp_neg, ← List.append_assoc, ← HT.out] at this
                  exact this⟩
              case measure => simp [intOf]; omega
          · have h91 : ((c.toNat : Int) == 91) = false := by
              rw [show ((91 : Int)) = (((91 : UInt8).toNat : Nat) : Int) from rfl, beq_u8]; simp [h1']
            have H91 : Hid (¬ c = 91) := h1'
            clear h1'
            go_wp2_with (go_at_call 22; refine (Try.Builder_WriteByte_k w1.heap.size w1.heap.size _ _ _ hI (by rw [Lib.byteCells_length]; omega) hszr).mono ?_; rintro e W1 ⟨rfl, h1, b1, _⟩)
            go_roundw
            case rel => exact ⟨k + 1, acc ++ [c], by omega, by go_num, by rw [Lib.byteCells_append]; exact Or.inr h1, hbw.trans b1, by simp; omega, by
                rw [List.append_assoc, ← Plain.gp_else c _ H92.out (fun h => H91.out h.1), HX.out]⟩
            case measure => simp [intOf]; omega
      · rw [List.drop_of_length_le (by simp; omega)] at hx
        simp only [Plain.gp, List.append_nil] at hx
        have HX : Hid (acc = Plain.gp s.data.toList) := hx
        clear hx
        go_wp2_with (go_at_call 23; refine (Try.Builder_String_any_k w1.heap.size w1.heap.size acc _ hI hszr).mono ?_; rintro e W1 ⟨rfl, _, b1, _⟩)
        go_ret
        exact ⟨by rw [← HX.out]; rfl, hb1.trans ((hbw.trans b1).mono hsz1)⟩

set_option maxHeartbeats 400000 in
/-- ZZglobPattern -/
theorem zglob_any (s : ByteArray) (w : World) (hs : s.size ≤ 16777216) :
    Calls Try.prog 12 #[.string s] w fun e w' => e = .returned (.string ⟨(Plain.gp s.data.toList).toArray⟩) ∧ Below w.heap.size w w' := by
  go_enter Try.func12, Try.ntmps12
  go_wp2_with (go_at_call 17; refine (glob_any s _ hs).mono ?_; rintro e w' ⟨rfl, hb⟩)
  go_ret
  exact ⟨rfl, hb⟩
end Go.Proofs.Qxb6617118a
