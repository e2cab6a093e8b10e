import Derived.Test.Qxb6617118aGlob
namespace Go.Proofs.Qxb6617118a
open Go.RowKit

/-- does a text hold a glob byte? -/
def hasG (l : List UInt8) : Bool := l.any Plain.isGlob

theorem any_glob (l : List UInt8) : hasG l = (l.contains 42 || l.contains 63 || l.contains 91 || l.contains 92) := by
  rw [Bool.eq_iff_iff, hasG]
  simp only [List.any_eq_true, Plain.isGlob, Bool.or_eq_true, beq_iff_eq, List.contains_iff_mem]
  constructor
  · rintro ⟨c, hc, ((rfl | rfl) | rfl) | rfl⟩ <;> simp [hc]
  · rintro (((h | h) | h) | h)
    · exact ⟨_, h, by simp⟩
    · exact ⟨_, h, by simp⟩
    · exact ⟨_, h, by simp⟩
    · exact ⟨_, h, by simp⟩

set_option maxHeartbeats 1000000 in
set_option maxRecDepth 100000 in
/-- hasGlobChar -/
theorem hasGlob_any (s : ByteArray) (w : World) :
    Calls Try.prog 18 #[.string s] w fun e w' => e = .returned (.bool (hasG s.data.toList)) ∧ w' = w := by
  have cc : Hid (∀ c, s.data.toList.contains c = decide (0 ≤ Lib.indexByte s.data.toList c)) := fun c => Lib.contains_iff_indexByte s.data.toList c
  have HC : Hid (hasG s.data.toList = (s.data.toList.contains 42 || s.data.toList.contains 63 || s.data.toList.contains 91 || s.data.toList.contains 92)) := any_glob _
  have hb0 : ∀ h, (⟨#[42, 63, 91, 92]⟩ : ByteArray)[0]'h = 42 := fun _ => rfl
  have hb1 : ∀ h, (⟨#[42, 63, 91, 92]⟩ : ByteArray)[1]'h = 63 := fun _ => rfl
  have hb2 : ∀ h, (⟨#[42, 63, 91, 92]⟩ : ByteArray)[2]'h = 91 := fun _ => rfl
  have hb3 : ∀ h, (⟨#[42, 63, 91, 92]⟩ : ByteArray)[3]'h = 92 := fun _ => rfl
  go_enter Try.func18, Try.ntmps18
  go_wp2
  go_loop [4] (fun t => ∃ k : Nat, k ≤ 4 ∧ t = .int .i64 k ∧ (1 ≤ k → s.data.toList.contains 42 = false) ∧ (2 ≤ k → s.data.toList.contains 63 = false) ∧ (3 ≤ k → s.data.toList.contains 91 = false) ∧ (4 ≤ k → s.data.toList.contains 92 = false)) (fun t => 4 - (intOf t).toNat)
  case atStart => exact ⟨0, by omega, rfl, by omega, by omega, by omega, by omega⟩
  case round =>
    obtain ⟨k, hk, rfl, g0, g1, g2, g3⟩ := hrel
    have hk5 : k = 0 ∨ k = 1 ∨ k = 2 ∨ k = 3 ∨ k = 4 := by omega
    have G : Hid ((1 ≤ k → s.data.toList.contains 42 = false) ∧ (2 ≤ k → s.data.toList.contains 63 = false) ∧ (3 ≤ k → s.data.toList.contains 91 = false) ∧ (4 ≤ k → s.data.toList.contains 92 = false)) := ⟨g0, g1, g2, g3⟩
    clear g0 g1 g2 g3
    rcases hk5 with rfl | rfl | rfl | rfl | rfl
    · rcases (Bool.eq_false_or_eq_true (s.data.toList.contains 42)).symm with hv | hv
      · have HV : Hid (s.data.toList.contains 42 = false) := hv
        have hn : ¬ ((0 : Int) ≤ Lib.indexByte s.data.toList 42) := of_decide_eq_false ((cc.out 42).symm.trans hv)
        clear hv
        go_wp2_with (go_at_call 25; refine (Try.strings_IndexByte _ _ _).mono ?_; rintro e w' ⟨rfl, hw⟩; rw [hw, show (((42 : Int)).toNat.toUInt8) = 42 from rfl])
        go_round
        case rel => exact ⟨1, by omega, rfl, fun _ => HV.out, fun h => absurd h (by omega), fun h => absurd h (by omega), fun h => absurd h (by omega)⟩
        case measure => simp [intOf]
      · have HV : Hid (s.data.toList.contains 42 = true) := hv
        have hn : (0 : Int) ≤ Lib.indexByte s.data.toList 42 := of_decide_eq_true ((cc.out 42).symm.trans hv)
        clear hv
        go_wp2_with (go_at_call 25; refine (Try.strings_IndexByte _ _ _).mono ?_; rintro e w' ⟨rfl, hw⟩; rw [hw, show (((42 : Int)).toNat.toUInt8) = 42 from rfl])
        go_ret
        exact ⟨by rw [HC.out, HV.out]; simp, rfl⟩
    · rcases (Bool.eq_false_or_eq_true (s.data.toList.contains 63)).symm with hv | hv
      · have HV : Hid (s.data.toList.contains 63 = false) := hv
        have hn : ¬ ((0 : Int) ≤ Lib.indexByte s.data.toList 63) := of_decide_eq_false ((cc.out 63).symm.trans hv)
        clear hv
        go_wp2_with (go_at_call 25; refine (Try.strings_IndexByte _ _ _).mono ?_; rintro e w' ⟨rfl, hw⟩; rw [hw, show (((63 : Int)).toNat.toUInt8) = 63 from rfl])
        go_round
        case rel => exact ⟨2, by omega, rfl, fun _ => G.out.1 (by omega), fun _ => HV.out, fun h => absurd h (by omega), fun h => absurd h (by omega)⟩
        case measure => simp [intOf]
      · have HV : Hid (s.data.toList.contains 63 = true) := hv
        have hn : (0 : Int) ≤ Lib.indexByte s.data.toList 63 := of_decide_eq_true ((cc.out 63).symm.trans hv)
        clear hv
        go_wp2_with (go_at_call 25; refine (Try.strings_IndexByte _ _ _).mono ?_; rintro e w' ⟨rfl, hw⟩; rw [hw, show (((63 : Int)).toNat.toUInt8) = 63 from rfl])
        go_ret
        exact ⟨by rw [HC.out, HV.out]; simp, rfl⟩
    · rcases (Bool.eq_false_or_eq_true (s.data.toList.contains 91)).symm with hv | hv
      · have HV : Hid (s.data.toList.contains 91 = false) := hv
        have hn : ¬ ((0 : Int) ≤ Lib.indexByte s.data.toList 91) := of_decide_eq_false ((cc.out 91).symm.trans hv)
        clear hv
        go_wp2_with (go_at_call 25; refine (Try.strings_IndexByte _ _ _).mono ?_; rintro e w' ⟨rfl, hw⟩; rw [hw, show (((91 : Int)).toNat.toUInt8) = 91 from rfl])
        go_round
        case rel => exact ⟨3, by omega, rfl, fun _ => G.out.1 (by omega), fun _ => G.out.2.1 (by omega), fun _ => HV.out, fun h => absurd h (by omega)⟩
        case measure => simp [intOf]
      · have HV : Hid (s.data.toList.contains 91 = true) := hv
        have hn : (0 : Int) ≤ Lib.indexByte s.data.toList 91 := of_decide_eq_true ((cc.out 91).symm.trans hv)
        clear hv
        go_wp2_with (go_at_call 25; refine (Try.strings_IndexByte _ _ _).mono ?_; rintro e w' ⟨rfl, hw⟩; rw [hw, show (((91 : Int)).toNat.toUInt8) = 91 from rfl])
        go_ret
        exact ⟨by rw [HC.out, HV.out]; simp, rfl⟩
    · rcases (Bool.eq_false_or_eq_true (s.data.toList.contains 92)).symm with hv | hv
      · have HV : Hid (s.data.toList.contains 92 = false) := hv
        have hn : ¬ ((0 : Int) ≤ Lib.indexByte s.data.toList 92) := of_decide_eq_false ((cc.out 92).symm.trans hv)
        clear hv
        go_wp2_with (go_at_call 25; refine (Try.strings_IndexByte _ _ _).mono ?_; rintro e w' ⟨rfl, hw⟩; rw [hw, show (((92 : Int)).toNat.toUInt8) = 92 from rfl])
        go_round
        case rel => exact ⟨4, by omega, rfl, fun _ => G.out.1 (by omega), fun _ => G.out.2.1 (by omega), fun _ => G.out.2.2.1 (by omega), fun _ => HV.out⟩
        case measure => simp [intOf]
      · have HV : Hid (s.data.toList.contains 92 = true) := hv
        have hn : (0 : Int) ≤ Lib.indexByte s.data.toList 92 := of_decide_eq_true ((cc.out 92).symm.trans hv)
        clear hv
        go_wp2_with (go_at_call 25; refine (Try.strings_IndexByte _ _ _).mono ?_; rintro e w' ⟨rfl, hw⟩; rw [hw, show (((92 : Int)).toNat.toUInt8) = 92 from rfl])
        go_ret
        exact ⟨by rw [HC.out, HV.out]; simp, rfl⟩
    · go_wp2
      go_ret
      exact ⟨by rw [HC.out, G.out.1 (by omega), G.out.2.1 (by omega), G.out.2.2.1 (by omega), G.out.2.2.2 (by omega)]; rfl, rfl⟩

theorem indexAny_cases (cs : List UInt8) : ∀ l : List UInt8, (Lib.indexAny l cs = -1 ∧ ∀ c ∈ l, cs.contains c = false) ∨
    ∃ (i : Nat) (c : UInt8), Lib.indexAny l cs = (i : Int) ∧ l[i]? = some c ∧ cs.contains c = true ∧ ∀ d ∈ l.take i, cs.contains d = false
  | [] => .inl ⟨rfl, fun _ h => by cases h⟩
  | b :: t => by
    rw [Lib.indexAny]
    by_cases hb : cs.contains b = true
    · rw [if_pos hb]
      exact .inr ⟨0, b, rfl, rfl, hb, fun d hd => by cases hd⟩
    · rw [if_neg hb]
      have hb' : cs.contains b = false := by simpa using hb
      rcases indexAny_cases cs t with ⟨h1, h2⟩ | ⟨i, c, h1, h2, h3, h4⟩
      · rw [h1]
        refine .inl ⟨rfl, fun c hc => ?_⟩
        rcases List.mem_cons.1 hc with rfl | hc'
        · exact hb'
        · exact h2 c hc'
      · rw [h1, if_neg (by simp)]
        refine .inr ⟨i + 1, c, by omega, by simpa using h2, h3, fun d hd => ?_⟩
        rw [List.take_succ_cons] at hd
        rcases List.mem_cons.1 hd with rfl | hd'
        · exact hb'
        · exact h4 d hd'

theorem globs (c : UInt8) : ([42, 63, 91, 92] : List UInt8).contains c = Plain.isGlob c := by
  rw [← indexByte_glob, ← Lib.contains_iff_indexByte]

/-- what is behind the first glob byte. -/
theorem eg_at (l : List UInt8) (i : Nat) (c : UInt8) (h : l[i]? = some c) (hc : Plain.isGlob c = true) (hp : ∀ d ∈ l.take i, Plain.isGlob d = false) :
    Plain.eg l = (l.take i ++ [92] ++ [c]) ++ Plain.eg (l.drop (i + 1)) := by
  obtain ⟨hi, he⟩ := List.getElem?_eq_some_iff.1 h
  have hl : l = l.take i ++ c :: l.drop (i + 1) := by
    conv => lhs; rw [← List.take_append_drop i l, List.drop_eq_getElem_cons hi, he]
  conv => lhs; rw [hl, Plain.eg_append, Plain.eg_plain _ hp, Plain.eg, Plain.quoted, if_pos hc]
  simp

theorem take_data (r : ByteArray) (i : Nat) : (r.extract 0 i).data.toList = r.data.toList.take i := by
  rw [Lib.extract_data, List.drop_zero, Nat.sub_zero]

theorem size_list (r : ByteArray) : r.data.toList.length = r.size := by simp

theorem grow_any (b n : Nat) (m : Int) (hm : m = (n : Int)) (w : World) (hbk : w.heap[b]? = some (.cells #[.pointer none, .slice none 0 0] 31 (0, 0))) (hBw : b ≤ w.heap.size) (hn : n ≤ 281474976710656) :
    Calls Try.prog 19 #[.pointer (some ⟨b, 0, none⟩), .int .i64 m] w fun e w' => e = .returned (.tuple #[]) ∧ Lib.IsBuilderF 31 5 b b (Lib.byteCells []) w' ∧ Below b w w' := by
  subst hm
  refine (Try.Builder_Grow_fresh b b n w (Nat.le_refl _) hbk hBw hn).mono ?_
  rintro e w' ⟨he, h1, h2⟩
  exact ⟨he, Lib.IsBuilderF.of (Or.inr h1), h2⟩

set_option maxHeartbeats 2000000 in
set_option maxRecDepth 100000 in
/-- escapeGlob -/
theorem esc_any (s : ByteArray) (w : World) (hs : s.size ≤ 16777216) :
    Calls Try.prog 15 #[.string s] w fun e w' => e = .returned (.string ⟨(Plain.eg s.data.toList).toArray⟩) ∧ Below w.heap.size w w' := by
  rcases (Bool.eq_false_or_eq_true (hasG s.data.toList)).symm with hg | hg
  · have HG : Hid (hasG s.data.toList = false) := hg
    have HP : Hid (Plain.eg s.data.toList = s.data.toList) := Plain.eg_plain _ (fun c hc => by
      have := List.any_eq_false.1 (show s.data.toList.any Plain.isGlob = false from hg) c hc
      simpa using this)
    clear hg
    go_enter Try.func15, Try.ntmps15
    go_wp2_with (go_at_call 18; refine (hasGlob_any s _).mono ?_; rintro e w' ⟨rfl, rfl⟩; rw [HG.out])
    go_ret
    exact ⟨by rw [HP.out]; rfl, Below.refl _ _⟩
  · have HG : Hid (hasG s.data.toList = true) := hg
    clear hg
    have hbk := heap_alloc_new w (.cells #[.pointer none, .slice none 0 0] 31)
    go_enter Try.func15, Try.ntmps15
    go_wp2_with (first
      | (go_at_call 18; refine (hasGlob_any s _).mono ?_; rintro e w' ⟨rfl, hw⟩; rw [HG.out, hw])
      | (go_at_call 19; refine (grow_any w.heap.size (s.size + 1) _ (by omega) _ hbk (by simp) (by omega)).mono ?_; rintro e w1 ⟨rfl, hI0, hb1⟩))
    have hsz1 := hb1.size
    simp at hsz1
    go_loopg [0] s.size (fun g t wx => ∃ (r : ByteArray) (acc : List UInt8), r.size = g ∧ t = .string r ∧ Lib.IsBuilderF 31 5 w.heap.size w.heap.size (Lib.byteCells acc) wx ∧ Below w.heap.size w wx ∧ w.heap.size ≤ wx.heap.size ∧ r.size ≤ s.size ∧ acc.length + 2 * r.size ≤ 2 * s.size ∧ acc ++ Plain.eg r.data.toList = Plain.eg s.data.toList)
    case atStart => exact ⟨s, [], rfl, rfl, hI0, (Below.refl _ w).trans (((Below.refl _ _).alloc (Nat.le_refl _) _).trans hb1), by omega, Nat.le_refl _, by simp, rfl⟩
    case round =>
      obtain ⟨r, acc, hrg, rfl, hI, hbw, hszr, hrs, hal, hx⟩ := hrel
      have HX : Hid (acc ++ Plain.eg r.data.toList = Plain.eg s.data.toList) := hx
      clear hx hI0 hb1 hbk
      have HR : Hid (r.size = gk) := hrg
      clear hrg
      rcases indexAny_cases [42, 63, 91, 92] r.data.toList with ⟨hn, hnone⟩ | ⟨i, c, hn, hc, hcg, hpre⟩
      · have HN : Hid (Lib.indexAny r.data.toList [42, 63, 91, 92] = -1) := hn
        have HE : Hid (Plain.eg r.data.toList = r.data.toList) := Plain.eg_plain _ (fun c hc => by rw [← globs]; exact hnone c hc)
        clear hn hnone
        go_wp2_with fail
        refine (indexAny_any r ⟨#[42, 63, 91, 92]⟩ _ (by decide) (by omega) (by decide) (by decide)).mono ?_
        rintro e W1 ⟨rfl, b1⟩
        rw [show (⟨#[42, 63, 91, 92]⟩ : ByteArray).data.toList = [42, 63, 91, 92] from rfl, HN.out]
        go_wp2_with fail
        refine (Try.Builder_WriteString_k w.heap.size w.heap.size _ r _ (builder_below hI b1) (by rw [Lib.byteCells_length]; omega) (Nat.le_trans hszr b1.size)).mono ?_
        rintro e W2 ⟨rfl, h2, b2, _⟩
        have h3 : Lib.IsBuilderF 31 5 w.heap.size w.heap.size (Lib.byteCells (acc ++ r.data.toList)) W2 := by rw [Lib.byteCells_append]; exact Or.inr h2
        clear h2
        go_wp2_with fail
        refine (Try.Builder_String_any_k w.heap.size w.heap.size _ _ h3 (Nat.le_trans (Nat.le_trans hszr b1.size) b2.size)).mono ?_
        rintro e W3 ⟨rfl, _, b3, _⟩
        go_wp2
        go_ret
        exact ⟨by rw [← HX.out, HE.out]; rfl, hbw.trans (((b1.mono hszr).trans b2).trans b3)⟩
      · have hi : i < r.size := by
          have := (List.getElem?_eq_some_iff.1 hc).1
          simpa using this
        have hri : r[i]'hi = c := by
          have := Lib.data_getElem? r i hi
          rw [hc] at this
          exact (Option.some.inj this).symm
        have HN : Hid (Lib.indexAny r.data.toList [42, 63, 91, 92] = (i : Int)) := hn
        have HE := eg_at r.data.toList i c hc (by rw [← globs]; exact hcg) (fun d hd => by rw [← globs]; exact hpre d hd)
        have HE : Hid (Plain.eg r.data.toList = (r.data.toList.take i ++ [92] ++ [c]) ++ Plain.eg (r.data.toList.drop (i + 1))) := HE
        clear hn hc hcg hpre
        go_wp2_with fail
        refine (indexAny_any r ⟨#[42, 63, 91, 92]⟩ _ (by decide) (by omega) (by decide) (by decide)).mono ?_
        rintro e W1 ⟨rfl, b1⟩
        rw [show (⟨#[42, 63, 91, 92]⟩ : ByteArray).data.toList = [42, 63, 91, 92] from rfl, HN.out]
        have sz1 := Nat.le_trans hszr b1.size
        have h1 := builder_below hI b1
        clear hI
        go_wp2_with fail
        refine (Try.Builder_WriteString_k w.heap.size w.heap.size _ _ _ h1 (by rw [Lib.byteCells_length, ← size_list, take_data, List.length_take]; omega) sz1).mono ?_
        rintro e W2 ⟨rfl, h2, b2, _⟩
        have sz2 := Nat.le_trans sz1 b2.size
        have hl2 : (Lib.byteCells acc ++ Lib.strCells (r.extract 0 i)).length ≤ acc.length + r.size := by
          rw [List.length_append, Lib.byteCells_length, Lib.strCells_eq, Lib.byteCells_length, take_data, List.length_take]; omega
        go_wp2_with fail
        refine (Try.Builder_WriteByte_k w.heap.size w.heap.size _ _ _ (Or.inr h2) (by omega) sz2).mono ?_
        rintro e W3 ⟨rfl, h3, b3, _⟩
        have sz3 := Nat.le_trans sz2 b3.size
        go_wp2_with fail
        refine (Try.Builder_WriteByte_k w.heap.size w.heap.size _ _ _ (Or.inr h3) (by rw [List.length_append]; simp only [List.length_cons, List.length_nil]; omega) sz3).mono ?_
        rintro e W4 ⟨rfl, h4, b4, _⟩
        have h5 : Lib.IsBuilderF 31 5 w.heap.size w.heap.size (Lib.byteCells (acc ++ (r.data.toList.take i ++ [92] ++ [c]))) W4 := by
          rw [Lib.strCells_eq, take_data] at h4
          have e5 : Lib.byteCells acc ++ Lib.byteCells (List.take i r.data.toList) ++ [Value.int .u8 92] ++ [Value.int .u8 (c.toNat : Int)] = Lib.byteCells (acc ++ (r.data.toList.take i ++ [92] ++ [c])) := by
            simp [Lib.byteCells]
          rw [← e5]
          exact Or.inr h4
        clear h1 h2 h3 h4
        go_wp2
        go_roundg (r.size - (i + 1))
        case measure => have := HR.out; omega
        case rel => exact ⟨r.extract (i + 1) r.size, acc ++ (r.data.toList.take i ++ [92] ++ [c]), by rw [← size_list, Lib.extract_to_end, List.length_drop, size_list], by first | rfl | simp, h5, hbw.trans ((((b1.mono hszr).trans b2).trans b3).trans b4), Nat.le_trans sz3 b4.size,
          by rw [← size_list, Lib.extract_to_end, List.length_drop, size_list]; omega, by
            rw [show (r.extract (i + 1) r.size).size = r.size - (i + 1) from by rw [← size_list, Lib.extract_to_end, List.length_drop, size_list]]
            simp only [List.length_append, List.length_take, List.length_cons, List.length_nil, size_list]; omega, by
            rw [Lib.extract_to_end, List.append_assoc, ← HE.out, HX.out]⟩

set_option maxHeartbeats 400000 in
/-- ZZescapeGlob -/
theorem zesc_any (s : ByteArray) (w : World) (hs : s.size ≤ 16777216) :
    Calls Try.prog 8 #[.string s] w fun e w' => e = .returned (.string ⟨(Plain.eg s.data.toList).toArray⟩) ∧ Below w.heap.size w w' := by
  go_enter Try.func8, Try.ntmps8
  go_wp2_with (go_at_call 15; refine (esc_any s _ hs).mono ?_; rintro e w' ⟨rfl, hb⟩)
  go_ret
  exact ⟨rfl, hb⟩

set_option maxHeartbeats 400000 in
theorem bytes3_any (s : ByteArray) (w : World) (hs : s.size ≤ maxLen) :
    Calls Try.prog 7 #[.string s] w fun e w' => e = .returned (.bool (decide (s.size ≤ 1048576))) ∧ w' = w := by
  unfold maxLen at hs
  by_cases h : s.size ≤ 1048576
  · have hd : decide (s.size ≤ 1048576) = true := by simpa using h
    rw [hd]
    go_enter Try.func7, Try.ntmps7
    go_wp2
    go_ret
    exact ⟨rfl, rfl⟩
  · have hd : decide (s.size ≤ 1048576) = false := by simpa using h
    rw [hd]
    go_enter Try.func7, Try.ntmps7
    go_wp2
    go_ret
    exact ⟨rfl, rfl⟩

set_option maxHeartbeats 400000 in
theorem bytes6_any (s : ByteArray) (w : World) (hs : s.size ≤ maxLen) :
    Calls Try.prog 14 #[.string s] w fun e w' => e = .returned (.bool (decide (s.size ≤ 1048576))) ∧ w' = w := by
  unfold maxLen at hs
  by_cases h : s.size ≤ 1048576
  · have hd : decide (s.size ≤ 1048576) = true := by simpa using h
    rw [hd]
    go_enter Try.func14, Try.ntmps14
    go_wp2
    go_ret
    exact ⟨rfl, rfl⟩
  · have hd : decide (s.size ≤ 1048576) = false := by simpa using h
    rw [hd]
    go_enter Try.func14, Try.ntmps14
    go_wp2
    go_ret
    exact ⟨rfl, rfl⟩

/-- the bound on two texts. -/
def okTwo (a b : Nat) : Bool := decide (a ≤ 1048576 ∧ b ≤ 1048576 ∧ a + b ≤ 1048576)

set_option maxHeartbeats 400000 in
theorem bytes4_any (a b : ByteArray) (w : World) (ha : a.size ≤ maxLen) (hb : b.size ≤ maxLen) :
    Calls Try.prog 10 #[.string a, .string b] w fun e w' => e = .returned (.bool (okTwo a.size b.size)) ∧ w' = w := by
  unfold maxLen at ha hb
  by_cases h1 : a.size ≤ 1048576
  · by_cases h2 : b.size ≤ 1048576
    · by_cases h3 : a.size + b.size ≤ 1048576
      · have hd : okTwo a.size b.size = true := by simp [okTwo, h1, h2, h3]
        rw [hd]
        go_enter Try.func10, Try.ntmps10
        go_wp2
        go_ret
        exact ⟨rfl, rfl⟩
      · have hd : okTwo a.size b.size = false := by simp [okTwo, h1, h2, h3]
        rw [hd]
        go_enter Try.func10, Try.ntmps10
        go_wp2
        go_ret
        exact ⟨rfl, rfl⟩
    · have hd : okTwo a.size b.size = false := by simp [okTwo, h2]
      rw [hd]
      go_enter Try.func10, Try.ntmps10
      go_wp2
      go_ret
      exact ⟨rfl, rfl⟩
  · have hd : okTwo a.size b.size = false := by simp [okTwo, h1]
    rw [hd]
    go_enter Try.func10, Try.ntmps10
    go_wp2
    go_ret
    exact ⟨rfl, rfl⟩
end Go.Proofs.Qxb6617118a
