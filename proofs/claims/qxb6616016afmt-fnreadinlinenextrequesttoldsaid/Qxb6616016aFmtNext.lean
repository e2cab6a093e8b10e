import Derived.Test.Qxb6616016aFmtPrefix
import Derived.Test.Qxb6616016aFmtTwice
namespace Go.Proofs.Qxb6616016aFmt
open Go.RowKit Go.Extern.Stop Go.Stop Go.Extern

theorem below_none {w w' : World} (h : w.grownBy w' none) : Below w.heap.size w w' := ⟨h.os, h.tape, h.output, h.size, fun j hj => h.block j hj (by simp)⟩
theorem out_same {w w2 : World} {P : List UInt8} {v v2 : Value} {f p u f2 p2 u2 : Bool} (hP : P.length ≤ 1000000) (h : Out w (Plain.req P) v f p u) (h2 : Out w2 (Plain.req P) v2 f2 p2 u2) :
    f2 = f ∧ p2 = p ∧ u2 = u ∧ ∃ (ws : List (List UInt8)) (k : Nat) (a : Option Addr) (c : Nat) (a2 : Option Addr) (c2 : Nat), ws.length = k ∧ k ≤ 1000000 ∧ (∀ x ∈ ws, x.length ≤ 1000000) ∧ v = .slice a k c ∧ v2 = .slice a2 k c2 ∧ Words w v ws ∧ Words w2 v2 ws := by
  have hnil : ∀ w : World, Words w (.slice none 0 0) [] := fun w => ⟨none, 0, rfl, Nat.le_refl _, fun h => absurd rfl h⟩
  cases ho : Plain.req P with
  | none =>
    rw [ho] at h h2
    obtain ⟨hv, rfl, rfl, rfl⟩ := h
    obtain ⟨hv2, rfl, rfl, rfl⟩ := h2
    exact ⟨rfl, rfl, rfl, [], 0, none, 0, none, 0, rfl, by omega, by simp, hv, hv2, by rw [hv]; exact hnil _, by rw [hv2]; exact hnil _⟩
  | some o =>
    cases o with
    | none =>
      rw [ho] at h h2
      obtain ⟨hv, rfl, rfl, rfl⟩ := h
      obtain ⟨hv2, rfl, rfl, rfl⟩ := h2
      exact ⟨rfl, rfl, rfl, [], 0, none, 0, none, 0, rfl, by omega, by simp, hv, hv2, by rw [hv]; exact hnil _, by rw [hv2]; exact hnil _⟩
    | some ws =>
      obtain ⟨hk1, hk2⟩ := Plain.req_bounds ho
      rw [ho] at h h2
      obtain ⟨⟨a, c, hv⟩, rfl, rfl, rfl, hw⟩ := h
      obtain ⟨⟨a2, c2, hv2⟩, rfl, rfl, rfl, hw2⟩ := h2
      exact ⟨rfl, rfl, rfl, ws, _, a, c, a2, c2, rfl, by omega, fun x hx => by have := hk2 x hx; omega, hv, hv2, hw, hw2⟩

set_option maxHeartbeats 4000000 in
set_option maxRecDepth 100000 in
theorem next_some (F : Interp) (w : World) (B n c dn dc : Nat) (A : Option Addr) (ad2 : Addr) (Px Pd : List UInt8) (a0 a1 a2 a3 : Addr) (s0 : ByteArray) (hF : F.answers w.tape) (hs : Sent w B a0 a1 a2 a3 s0) (hx : Leads w A Px) (hn : Px.length = n) (hP : CellsAt w ad2 Pd) (hdn : Pd.length = dn) :
    Calls Tryf.prog 4 #[.slice A n c, .slice (some ad2) dn dc] w fun x w' => x = .returned (.bool true) ∧ Below w.heap.size w w' := by
  obtain ⟨i0, hinfo, hz0, hz1, hz2⟩ := info_parts Tryf.info5
  have HS : Hid (Sent w B a0 a1 a2 a3 s0) := hs
  clear hs
  have HP : Hid (CellsAt w ad2 Pd) := hP
  clear hP
  rcases Classical.em (¬ (n ≤ 4096 ∧ dn ≤ 32768)) with hbig | hbig
  · go_enter Tryf.func4, Tryf.ntmps4
    go_wp2_with fail
    refine (bound11 _ _ _ n c dn dc).mono ?_
    rintro e w' ⟨⟨b, rfl⟩, hw⟩
    rw [hw]
    clear hw
    cases b
    · go_wp2
      go_ret
      exact ⟨rfl, Below.refl _ _⟩
    · by_cases h4 : n ≤ 4096
      · have hz4 : ¬ (4096 : Int) < n := by omega
        have hz : (32768 : Int) < dn := by omega
        go_wp2
        go_ret
        exact ⟨rfl, Below.refl _ _⟩
      · have hz : (4096 : Int) < n := by omega
        go_wp2
        go_ret
        exact ⟨rfl, Below.refl _ _⟩
  obtain ⟨hbn, hbd⟩ := Classical.not_not.1 hbig
  clear hbig
  have hmk := run_make (P := Tryf.prog) w 22 5 i0 (.int .u8 0) Tryf.underlying22 hinfo hz0 .i64 .i64 dn dn (by omega) (by omega) (by rw [hz2]; omega) (by omega)
  simp only [Int.toNat_natCast, hz1, Nat.mul_one] at hmk
  generalize hmc : madeCells (Value.int .u8 0).cells dn = mc at hmk
  have HMC : Hid (mc.size = dn) := by show mc.size = dn; rw [← hmc, size_madeCells]
  clear hmc
  have HFT : Hid (0 + (Lib.byteCells Pd).length ≤ mc.toList.length) := by show 0 + (Lib.byteCells Pd).length ≤ mc.toList.length; rw [byteCells_len, show mc.toList.length = mc.size from by simp, HMC.out]; omega
  have HG0 : Hid ((w.alloc (.cells mc 5)).heap[w.heap.size]? = some (.cells mc.toList.toArray 5 (0, 0))) := by
    show (w.alloc (.cells mc 5)).heap[w.heap.size]? = some (.cells mc.toList.toArray 5 (0, 0))
    rw [Array.toArray_toList]
    exact heap_alloc_new w _
  have hzz : ¬ (32768 : Int) < dn := by omega
  have hzn : ¬ (4096 : Int) < n := by omega
  go_enter Tryf.func4, Tryf.ntmps4
  go_wp2_with fail
  refine (bound11 _ _ _ n c dn dc).mono ?_
  rintro e w' ⟨⟨b, rfl⟩, hw⟩
  rw [hw]
  clear hw
  cases b
  · go_wp2
    go_ret
    exact ⟨rfl, Below.refl _ _⟩
  go_wp2_with fail
  refine (bareWord_any w A n c Px hn (by omega) hx).mono ?_
  rintro e w' ⟨⟨b, rfl, hbare⟩, hw⟩
  rw [hw]
  clear hw
  cases b
  · go_wp2
    go_ret
    exact ⟨rfl, Below.refl _ _⟩
  have HBare : Hid (Plain.Bare Px) := hbare rfl
  clear hbare
  obtain ⟨ad, rfl, hX⟩ := hx HBare.out.1
  have HX : Hid (CellsAt w ad Px) := hX
  clear hX hx
  obtain ⟨t, ht⟩ : ∃ t, t = n + 1 + dn := ⟨_, rfl⟩
  have hw1 : IntKind.i64.wrap ((n : Int) + 1) = (n : Int) + 1 := wrap_small _ (by omega) (by omega)
  have hw2 : IntKind.i64.wrap ((n : Int) + 1 + dn) = (t : Int) := by rw [wrap_small _ (by omega) (by omega)]; omega
  have hf1 : 0 + n ≤ t := by omega
  have hf2 : n + 1 ≤ t := by omega
  have hf3 : n + 1 + dn ≤ t := by omega
  have htb : t ≤ 40000 := by omega
  clear ht
  go_wp2_with (first | (refine wpList_copy_splice (by rfl) (.tmp 39) (.tmp 40) 22 22 (by rfl) 5 Tryf.underlying22 Tryf.size5 _ _ _ _ _ _ (by rfl) (by rfl) w.heap.size 0 mc.toList 5 HG0.out (Lib.byteCells Pd) (by rw [byteCells_len, hdn]; exact (Nat.min_self dn).symm) (fun hp => ⟨rfl, _, rfl, fun j u hu => cell_later ((Below.refl _ w).alloc (Nat.le_refl _) _) (HP.out j u hu)⟩) HFT.out (byteCells_one Pd) w.heap.size w ((Below.refl _ w).alloc (Nat.le_refl _) _) (Nat.le_refl _) ?_; intro w1 HG1 hB1) | (at_make; refine wpList_make_own _ rfl _ _ 22 rfl _ 5 i0 (.int .u8 0) 1 Tryf.underlying22 hinfo hz0 hz1 _ _ _ t rfl rfl (by omega) (by rw [hz2]; omega) (by unfold maxLen; omega) (Nat.le_refl _) ?_; intro w3 hown3 hgrow3) | (at_builtin; refine wpList_append_fits _ rfl (.tmp 50) (.tmp 51) 22 rfl w1.heap.size 5 i0 1 Tryf.underlying22 hinfo hz1 w1.heap.size 0 t _ rfl hown3 ad n c (Lib.byteCells Px) rfl (by rw [byteCells_len, hn]; simp) ((HX.out.below hB1).below (below_none hgrow3)) (byteCells_one Px) hf1 ?_; intro w4 hown4 hgrow4; simp only [Nat.zero_add, List.nil_append] at hown4) | (at_builtin; refine wpList_append_fits _ rfl (.tmp 53) (.tmp 54) 22 rfl w1.heap.size 5 i0 1 Tryf.underlying22 hinfo hz1 w1.heap.size n t _ rfl (hown4.alloc _) ⟨_, 0, none⟩ 1 1 [.int .u8 10] rfl rfl cell_one (one_u8 _) hf2 ?_; intro w5 hown5 hgrow5) | (at_builtin; refine wpList_append_fits _ rfl (.tmp 56) (.tmp 57) 22 rfl w1.heap.size 5 i0 1 Tryf.underlying22 hinfo hz1 w1.heap.size (n + 1) t _ rfl hown5 ⟨w.heap.size, 0, none⟩ dn dn (Lib.byteCells Pd) rfl (by rw [byteCells_len, hdn]; simp) (bytesAt_cells ((bytesAt_splice (cur := mc.toList) (o := 0) HG1.out (Nat.zero_le _)).below (below3 hgrow3 hgrow4 hgrow5))) (byteCells_one Pd) hf3 ?_; intro w6 hown6 hgrow6))
  have Y1 : Hid (BytesAt w1 w.heap.size 0 Pd) := bytesAt_splice (cur := mc.toList) (o := 0) HG1.out (Nat.zero_le _)
  have B1 : Hid (Below w.heap.size w w1) := hB1
  have HS1 : Hid (Sent w1 B a0 a1 a2 a3 s0) := HS.out.kept ((Kept.refl [] w).below hB1) (by simp)
  clear HG1 HG0 HFT hmk
  have B2 : Hid (Below w.heap.size w w1) := B1.out
  have X2 : Hid (CellsAt w1 ad Px) := HX.out.below B1.out
  have Y2 : Hid (BytesAt w1 w.heap.size 0 Pd) := Y1.out
  have Y6 : Hid (BytesAt w6 w1.heap.size 0 (Px ++ 10 :: Pd)) := own_bytes (n := n + 1 + dn) (cap := t) (by rw [show Lib.byteCells (Px ++ 10 :: Pd) = Lib.byteCells Px ++ [.int .u8 10] ++ Lib.byteCells Pd by simp [Lib.byteCells]]; exact hown6)
  have HB26 : Hid (Below w1.heap.size w1 w6) := below_later (below3 hgrow3 hgrow4 hgrow5) hgrow6
  have B6 : Hid (Below w.heap.size w w6) := B2.out.trans (HB26.out.mono B2.out.size)
  have HS6 : Hid (Sent w6 B a0 a1 a2 a3 s0) := HS.out.kept ((Kept.refl [] w).below B6.out) (by simp)
  clear hB1 hown3 hgrow3 hown4 hgrow4 hown5 hgrow5 hown6 hgrow6
  refine (twice_any F w6 B (n + 1 + dn) t w1.heap.size 0 Px Pd a0 a1 a2 a3 s0 (by rw [B6.out.tape]; exact hF) (by simp; omega) (by omega) hf3 Y6.out HS6.out HBare.out).mono ?_
  rintro e w7 ⟨va, vc, p1, u1, v, f, p, u, rfl, hw1x, ho, hb7⟩
  have HO : Hid (Out w7 (Plain.req Pd) v f p u) := ho
  have HW1 : Hid (Words w7 (.slice va 1 vc) [Px]) := hw1x
  have B7 : Hid (Below w.heap.size w w7) := B6.out.trans (hb7.mono B6.out.size)
  have HB17 : Hid (Below w1.heap.size w1 w7) := HB26.out.trans (hb7.mono HB26.out.size)
  have HS7 : Hid (Sent w7 B a0 a1 a2 a3 s0) := HS.out.kept ((Kept.refl [] w).below B7.out) (by simp)
  clear ho hw1x hb7
  go_wp2_with fail
  refine (zz_any F w7 B dn dn (some ⟨w.heap.size, 0, none⟩) Pd a0 a1 a2 a3 s0 (by rw [B7.out.tape]; exact hF) hdn (by omega) (by omega) (fun _ => ⟨_, _, rfl, Y1.out.below HB17.out⟩) HS7.out).mono ?_
  rintro e w8 ⟨v3, f3, p3, u3, rfl, ho3, hb8⟩
  obtain ⟨rfl, rfl, rfl, ws, k, a4, c4, a5, c5, hk, hkb, hxb, rfl, rfl, hwa, hwb⟩ := out_same (P := Pd) (by first | omega | simp) HO.out ho3
  have B8 : Hid (Below w.heap.size w w8) := B7.out.trans (hb8.mono B7.out.size)
  obtain ⟨-, -, hat4⟩ := (hwa.below hb8).at
  obtain ⟨-, -, hat5⟩ := hwb.at
  obtain ⟨-, -, hat1⟩ := (HW1.out.below hb8).at
  obtain ⟨b2, o2, rfl, hcell⟩ := hat1 (by simp)
  obtain ⟨a', c', e0, l0⟩ := hcell 0 Px rfl
  rw [Nat.add_zero, hn] at e0
  have X8 : Hid (CellsAt w8 ad Px) := HX.out.below B8.out
  have L0 : Hid (Leads w8 a' Px) := l0
  have HW4 : Hid (WordsAt w8 a4 ws) := hat4
  have HW5 : Hid (WordsAt w8 a5 ws) := hat5
  have HXB : Hid (∀ x ∈ ws, x.length ≤ 1000000) := hxb
  clear ho3 hb8 hwa hwb hat4 hat5 hat1 hcell l0 hxb HO HW1
  go_wp2_with fail
  refine (eq_any w8 a' (some ad) n c' c Px hn (by omega) L0.out (fun _ => ⟨ad, rfl, X8.out⟩)).mono ?_
  rintro e w9 ⟨rfl, m, rfl⟩
  go_wp2_with fail
  refine (same_any (w8.drewN m) a4 a5 k c4 c5 ws hk (by omega) HXB.out (by exact HW4.out) (by exact HW5.out)).mono ?_
  rintro e w9 ⟨rfl, m9, rfl⟩
  go_wp2
  go_ret
  exact ⟨by simp, ⟨B8.out.os, B8.out.tape, B8.out.output, B8.out.size, B8.out.block⟩⟩

set_option maxHeartbeats 4000000 in
set_option maxRecDepth 100000 in
theorem next_nil (F : Interp) (w : World) (B n c : Nat) (A : Option Addr) (Px : List UInt8) (a0 a1 a2 a3 : Addr) (s0 : ByteArray) (hF : F.answers w.tape) (hs : Sent w B a0 a1 a2 a3 s0) (hx : Leads w A Px) (hn : Px.length = n) :
    Calls Tryf.prog 4 #[.slice A n c, .slice none 0 0] w fun x w' => x = .returned (.bool true) ∧ Below w.heap.size w w' := by
  obtain ⟨i0, hinfo, hz0, hz1, hz2⟩ := info_parts Tryf.info5
  have HS : Hid (Sent w B a0 a1 a2 a3 s0) := hs
  clear hs
  rcases Classical.em (¬ (n ≤ 4096)) with hbig | hbig
  · go_enter Tryf.func4, Tryf.ntmps4
    go_wp2_with fail
    refine (bound11 _ _ _ n c 0 0).mono ?_
    rintro e w' ⟨⟨b, rfl⟩, hw⟩
    rw [hw]
    clear hw
    cases b
    · go_wp2
      go_ret
      exact ⟨rfl, Below.refl _ _⟩
    · have hz : (4096 : Int) < n := by omega
      go_wp2
      go_ret
      exact ⟨rfl, Below.refl _ _⟩
  have hbn : n ≤ 4096 := Classical.not_not.1 hbig
  clear hbig
  have hzn : ¬ (4096 : Int) < n := by omega
  go_enter Tryf.func4, Tryf.ntmps4
  go_wp2_with fail
  refine (bound11 _ _ _ n c 0 0).mono ?_
  rintro e w' ⟨⟨b, rfl⟩, hw⟩
  rw [hw]
  clear hw
  cases b
  · go_wp2
    go_ret
    exact ⟨rfl, Below.refl _ _⟩
  go_wp2_with fail
  refine (bareWord_any w A n c Px hn (by omega) hx).mono ?_
  rintro e w' ⟨⟨b, rfl, hbare⟩, hw⟩
  rw [hw]
  clear hw
  cases b
  · go_wp2
    go_ret
    exact ⟨rfl, Below.refl _ _⟩
  have HBare : Hid (Plain.Bare Px) := hbare rfl
  clear hbare
  obtain ⟨ad, rfl, hX⟩ := hx HBare.out.1
  have HX : Hid (CellsAt w ad Px) := hX
  clear hX hx
  have B1 : Hid (Below w.heap.size w w) := Below.refl _ _
  have HS1 : Hid (Sent w B a0 a1 a2 a3 s0) := HS.out
  have B2 : Hid (Below w.heap.size w w) := B1.out
  have X2 : Hid (CellsAt w ad Px) := HX.out.below B1.out
  obtain ⟨t, ht⟩ : ∃ t, t = n + 1 + 0 := ⟨_, rfl⟩
  have hw1 : IntKind.i64.wrap ((n : Int) + 1) = (n : Int) + 1 := wrap_small _ (by omega) (by omega)
  have hw2 : IntKind.i64.wrap ((n : Int) + 1 + 0) = (t : Int) := by rw [wrap_small _ (by omega) (by omega)]; omega
  have hw2' : (n : Int) + 1 = (t : Int) := by omega
  have hf1 : 0 + n ≤ t := by omega
  have hf2 : n + 1 ≤ t := by omega
  have hf3 : n + 1 + 0 ≤ t := by omega
  have htb : t ≤ 40000 := by omega
  clear ht
  go_wp2_with (at_make; refine wpList_make_own _ rfl _ _ 22 rfl w.heap.size 5 i0 (.int .u8 0) 1 Tryf.underlying22 hinfo hz0 hz1 _ _ _ t rfl rfl (by omega) ?b2 ?b3 (Nat.le_refl _) ?_)
  case b2 => rw [hz2]; omega
  case b3 => unfold maxLen; omega
  intro w3 hown3 hgrow3
  have X3 : Hid (CellsAt w3 ad Px) := X2.out.below ⟨hgrow3.os, hgrow3.tape, hgrow3.output, hgrow3.size, fun j hj => hgrow3.block j hj (by simp)⟩
  go_wp2_with (first | (at_builtin; refine wpList_append_fits _ rfl (.tmp 50) (.tmp 51) 22 rfl w.heap.size 5 i0 1 Tryf.underlying22 hinfo hz1 w.heap.size 0 t _ rfl hown3 ad n c (Lib.byteCells Px) rfl (by rw [byteCells_len, hn]; simp) X3.out (byteCells_one Px) hf1 ?_; intro w4 hown4 hgrow4; simp only [Nat.zero_add, List.nil_append] at hown4) | (at_builtin; refine wpList_append_fits _ rfl (.tmp 53) (.tmp 54) 22 rfl w.heap.size 5 i0 1 Tryf.underlying22 hinfo hz1 w.heap.size n t _ rfl (hown4.alloc _) ⟨_, 0, none⟩ 1 1 [.int .u8 10] rfl rfl cell_one (one_u8 _) hf2 ?_; intro w5 hown5 hgrow5) | (at_builtin; refine wpList_append_own_none rfl (.tmp 56) (.tmp 57) 22 rfl w.heap.size 5 i0 1 Tryf.underlying22 hinfo _ (n + 1) _ rfl hown5 rfl ?_))
  have Y6 : Hid (BytesAt w5 w.heap.size 0 (Px ++ 10 :: [])) := own_bytes (n := n + 1) (cap := t) (by rw [show Lib.byteCells (Px ++ 10 :: []) = Lib.byteCells Px ++ [.int .u8 10] by simp [Lib.byteCells]]; exact hown5)
  have B6 : Hid (Below w.heap.size w w5) := B2.out.trans ((below3 hgrow3 hgrow4 hgrow5).mono B2.out.size)
  have HB26 : Hid (Below w.heap.size w w5) := below3 hgrow3 hgrow4 hgrow5
  have HS6 : Hid (Sent w5 B a0 a1 a2 a3 s0) := HS.out.kept ((Kept.refl [] w).below B6.out) (by simp)
  clear hown3 hgrow3 hown4 hgrow4 hown5 hgrow5
  refine (twice_any F w5 B (n + 1) t w.heap.size 0 Px [] a0 a1 a2 a3 s0 (by rw [B6.out.tape]; exact hF) (by simp; omega) (by omega) hf2 Y6.out HS6.out HBare.out).mono ?_
  rintro e w7 ⟨va, vc, p1, u1, v, f, p, u, rfl, hw1x, ho, hb7⟩
  have HO : Hid (Out w7 (Plain.req []) v f p u) := ho
  have HW1 : Hid (Words w7 (.slice va 1 vc) [Px]) := hw1x
  have B7 : Hid (Below w.heap.size w w7) := B6.out.trans (hb7.mono B6.out.size)
  have HB17 : Hid (Below w.heap.size w w7) := HB26.out.trans (hb7.mono HB26.out.size)
  have HS7 : Hid (Sent w7 B a0 a1 a2 a3 s0) := HS.out.kept ((Kept.refl [] w).below B7.out) (by simp)
  clear ho hw1x hb7
  go_wp2_with fail
  refine (zz_any F w7 B 0 0 none [] a0 a1 a2 a3 s0 (by rw [B7.out.tape]; exact hF) rfl (by omega) (by omega) (fun h => absurd rfl h) HS7.out).mono ?_
  rintro e w8 ⟨v3, f3, p3, u3, rfl, ho3, hb8⟩
  obtain ⟨rfl, rfl, rfl, ws, k, a4, c4, a5, c5, hk, hkb, hxb, rfl, rfl, hwa, hwb⟩ := out_same (P := []) (by first | omega | simp) HO.out ho3
  have B8 : Hid (Below w.heap.size w w8) := B7.out.trans (hb8.mono B7.out.size)
  obtain ⟨-, -, hat4⟩ := (hwa.below hb8).at
  obtain ⟨-, -, hat5⟩ := hwb.at
  obtain ⟨-, -, hat1⟩ := (HW1.out.below hb8).at
  obtain ⟨b2, o2, rfl, hcell⟩ := hat1 (by simp)
  obtain ⟨a', c', e0, l0⟩ := hcell 0 Px rfl
  rw [Nat.add_zero, hn] at e0
  have X8 : Hid (CellsAt w8 ad Px) := HX.out.below B8.out
  have L0 : Hid (Leads w8 a' Px) := l0
  have HW4 : Hid (WordsAt w8 a4 ws) := hat4
  have HW5 : Hid (WordsAt w8 a5 ws) := hat5
  have HXB : Hid (∀ x ∈ ws, x.length ≤ 1000000) := hxb
  clear ho3 hb8 hwa hwb hat4 hat5 hat1 hcell l0 hxb HO HW1
  go_wp2_with fail
  refine (eq_any w8 a' (some ad) n c' c Px hn (by omega) L0.out (fun _ => ⟨ad, rfl, X8.out⟩)).mono ?_
  rintro e w9 ⟨rfl, m, rfl⟩
  go_wp2_with fail
  refine (same_any (w8.drewN m) a4 a5 k c4 c5 ws hk (by omega) HXB.out (by exact HW4.out) (by exact HW5.out)).mono ?_
  rintro e w9 ⟨rfl, m9, rfl⟩
  go_wp2
  go_ret
  exact ⟨by simp, ⟨B8.out.os, B8.out.tape, B8.out.output, B8.out.size, B8.out.block⟩⟩

end Go.Proofs.Qxb6616016aFmt
