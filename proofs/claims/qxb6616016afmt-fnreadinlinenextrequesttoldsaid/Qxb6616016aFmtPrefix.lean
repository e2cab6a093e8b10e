import Derived.Test.Qxb6616016aFmtSame
namespace Go.Proofs.Qxb6616016aFmt
open Go.RowKit Go.Extern.Stop Go.Stop Go.Extern

theorem out_prefix {w w2 : World} {x : List UInt8} {o : Option (Option (List (List UInt8)))} {v v2 : Value} {f p u f2 p2 u2 : Bool} (h : Out w o v f p u) (h2 : Out w2 (o.map (Option.map (x :: ·))) v2 f2 p2 u2) :
    f2 = f ∧ p2 = p ∧ u2 = u ∧ ((f = true ∧ v = .slice none 0 0 ∧ v2 = .slice none 0 0) ∨
      (f = false ∧ ∃ ws k a c a2 c2, o = some (some ws) ∧ ws.length = k ∧ v = .slice a k c ∧ v2 = .slice a2 (k + 1) c2 ∧ Words w v ws ∧ Words w2 v2 (x :: ws))) := by
  match o, h, h2 with
  | none, h, h2 =>
    obtain ⟨hv, rfl, rfl, rfl⟩ := h
    obtain ⟨hv2, rfl, rfl, rfl⟩ := h2
    exact ⟨rfl, rfl, rfl, .inl ⟨rfl, hv, hv2⟩⟩
  | some none, h, h2 =>
    obtain ⟨hv, rfl, rfl, rfl⟩ := h
    obtain ⟨hv2, rfl, rfl, rfl⟩ := h2
    exact ⟨rfl, rfl, rfl, .inl ⟨rfl, hv, hv2⟩⟩
  | some (some ws), h, h2 =>
    obtain ⟨⟨a, c, hv⟩, rfl, rfl, rfl, hw⟩ := h
    obtain ⟨⟨a2, c2, hv2⟩, rfl, rfl, rfl, hw2⟩ := h2
    exact ⟨rfl, rfl, rfl, .inr ⟨rfl, ws, _, a, c, a2, c2, rfl, rfl, hv, hv2, hw, hw2⟩⟩

theorem below3 {w2 w3 w4 w5 : World} {o : Obj} (h3 : w2.grownBy w3 none) (h4 : w3.grownBy w4 (some w2.heap.size)) (h5 : (w4.alloc o).grownBy w5 (some w2.heap.size)) : Below w2.heap.size w2 w5 := by
  have s3 := h3.size
  have s4 := h4.size
  exact ((Below.refl w2.heap.size w2).grown h3 (Nat.le_refl _) (fun k h => by cases h)).trans ((grown_below h4 s3 (Nat.le_refl _)).trans (((Below.refl w2.heap.size w4).alloc (by omega) _).trans (grown_below h5 (by simp; omega) (Nat.le_refl _))))
theorem below_later {w2 w5 w6 : World} (h : Below w2.heap.size w2 w5) (h6 : w5.grownBy w6 (some w2.heap.size)) : Below w2.heap.size w2 w6 := h.trans (grown_below h6 h.size (Nat.le_refl _))
theorem CellsAt.below {w w' : World} {ad : Addr} {P : List UInt8} (h : CellsAt w ad P) (hb : Below w.heap.size w w') : CellsAt w' ad P := fun j v hv => by
  have := h j v hv
  rw [World.cell?_of_block (hb.block _ (World.block_lt_of_cell? w _ this))]; exact this
theorem words_tail {w : World} {b o : Nat} {x : List UInt8} {ws : List (List UInt8)} (h : ∀ (j : Nat) (y : List UInt8), (x :: ws)[j]? = some y → ∃ a' c', w.cell? ⟨b, o + j, none⟩ = some (.slice a' y.length c') ∧ Leads w a' y) : WordsAt w (some ⟨b, o + 1, none⟩) ws := fun _ =>
  ⟨b, o + 1, rfl, fun j y hy => by
    obtain ⟨a', c', h1, h2⟩ := h (j + 1) y (by simpa using hy)
    exact ⟨a', c', by rw [Nat.add_assoc, Nat.add_comm 1 j]; exact h1, h2⟩⟩

set_option maxHeartbeats 4000000 in
set_option maxRecDepth 100000 in
theorem prefix_some (F : Interp) (w : World) (B n c dn dc : Nat) (A : Option Addr) (ad2 : Addr) (Px Pd : List UInt8) (a0 a1 a2 a3 : Addr) (s0 : ByteArray) (hF : F.answers w.tape) (hs : Sent w B a0 a1 a2 a3 s0) (hx : Leads w A Px) (hn : Px.length = n) (hP : CellsAt w ad2 Pd) (hdn : Pd.length = dn) :
    Calls Tryf.prog 3 #[.slice A n c, .slice (some ad2) dn dc] w fun x w' => x = .returned (.bool true) ∧ Below w.heap.size w w' := by
  obtain ⟨i0, hinfo, hz0, hz1, hz2⟩ := info_parts Tryf.info5
  have HS : Hid (Sent w B a0 a1 a2 a3 s0) := hs
  clear hs
  have HP : Hid (CellsAt w ad2 Pd) := hP
  clear hP
  rcases Classical.em (¬ (n ≤ 4096 ∧ dn ≤ 32768)) with hbig | hbig
  · go_enter Tryf.func3, Tryf.ntmps3
    go_wp2_with fail
    refine (bound6 _ _ _ n c dn dc).mono ?_
    rintro e w' ⟨⟨b, rfl⟩, hw⟩
    rw [hw]
    clear hw
    cases b
    · go_wp2
      go_ret
      exact ⟨rfl, Below.refl _ _⟩
    · by_cases h4 : n ≤ 4096
      · have hz4 : ¬ (4096 : Int) < n := by omega
        have hz : (32768 : Int) < dn := by omega
        go_wp2
        go_ret
        exact ⟨rfl, Below.refl _ _⟩
      · have hz : (4096 : Int) < n := by omega
        go_wp2
        go_ret
        exact ⟨rfl, Below.refl _ _⟩
  obtain ⟨hbn, hbd⟩ := Classical.not_not.1 hbig
  clear hbig
  have hmk := run_make (P := Tryf.prog) w 22 5 i0 (.int .u8 0) Tryf.underlying22 hinfo hz0 .i64 .i64 dn dn (by omega) (by omega) (by rw [hz2]; omega) (by omega)
  simp only [Int.toNat_natCast, hz1, Nat.mul_one] at hmk
  generalize hmc : madeCells (Value.int .u8 0).cells dn = mc at hmk
  have HMC : Hid (mc.size = dn) := by show mc.size = dn; rw [← hmc, size_madeCells]
  clear hmc
  have HFT : Hid (0 + (Lib.byteCells Pd).length ≤ mc.toList.length) := by show 0 + (Lib.byteCells Pd).length ≤ mc.toList.length; rw [byteCells_len, show mc.toList.length = mc.size from by simp, HMC.out]; omega
  have HG0 : Hid ((w.alloc (.cells mc 5)).heap[w.heap.size]? = some (.cells mc.toList.toArray 5 (0, 0))) := by
    show (w.alloc (.cells mc 5)).heap[w.heap.size]? = some (.cells mc.toList.toArray 5 (0, 0))
    rw [Array.toArray_toList]
    exact heap_alloc_new w _
  have hzz : ¬ (32768 : Int) < dn := by omega
  have hzn : ¬ (4096 : Int) < n := by omega
  go_enter Tryf.func3, Tryf.ntmps3
  go_wp2_with fail
  refine (bound6 _ _ _ n c dn dc).mono ?_
  rintro e w' ⟨⟨b, rfl⟩, hw⟩
  rw [hw]
  clear hw
  cases b
  · go_wp2
    go_ret
    exact ⟨rfl, Below.refl _ _⟩
  go_wp2_with fail
  refine (bareWord_any w A n c Px hn (by omega) hx).mono ?_
  rintro e w' ⟨⟨b, rfl, hbare⟩, hw⟩
  rw [hw]
  clear hw
  cases b
  · go_wp2
    go_ret
    exact ⟨rfl, Below.refl _ _⟩
  have HBare : Hid (Plain.Bare Px) := hbare rfl
  clear hbare
  obtain ⟨ad, rfl, hX⟩ := hx HBare.out.1
  have HX : Hid (CellsAt w ad Px) := hX
  clear hX hx
  go_wp2_with (refine wpList_copy_splice (by rfl) (.tmp 35) (.tmp 36) 22 22 (by rfl) 5 Tryf.underlying22 Tryf.size5 _ _ _ _ _ _ (by rfl) (by rfl) w.heap.size 0 mc.toList 5 HG0.out (Lib.byteCells Pd) (by rw [byteCells_len, hdn]; exact (Nat.min_self dn).symm) (fun hp => ⟨rfl, _, rfl, fun j u hu => cell_later ((Below.refl _ w).alloc (Nat.le_refl _) _) (HP.out j u hu)⟩) HFT.out (byteCells_one Pd) w.heap.size w ((Below.refl _ w).alloc (Nat.le_refl _) _) (Nat.le_refl _) ?_; intro w1 HG1 hB1)
  have Y1 : Hid (BytesAt w1 w.heap.size 0 Pd) := bytesAt_splice (cur := mc.toList) (o := 0) HG1.out (Nat.zero_le _)
  have B1 : Hid (Below w.heap.size w w1) := hB1
  have HS1 : Hid (Sent w1 B a0 a1 a2 a3 s0) := HS.out.kept ((Kept.refl [] w).below hB1) (by simp)
  clear hB1 HG1 HG0 HFT hmk
  refine (zz_any F w1 B dn dn (some ⟨w.heap.size, 0, none⟩) Pd a0 a1 a2 a3 s0 (by rw [B1.out.tape]; exact hF) hdn (by omega) (by omega) (fun _ => ⟨_, _, rfl, Y1.out⟩) HS1.out).mono ?_
  rintro e w2 ⟨v, f, p, u, rfl, ho, hb2⟩
  have HO : Hid (Out w2 (Plain.req Pd) v f p u) := ho
  have B2 : Hid (Below w.heap.size w w2) := B1.out.trans (hb2.mono B1.out.size)
  have Y2 : Hid (BytesAt w2 w.heap.size 0 Pd) := Y1.out.below hb2
  have X2 : Hid (CellsAt w2 ad Px) := HX.out.below B2.out
  clear ho hb2
  obtain ⟨t, ht⟩ : ∃ t, t = n + 1 + dn := ⟨_, rfl⟩
  have hw1 : IntKind.i64.wrap ((n : Int) + 1) = (n : Int) + 1 := wrap_small _ (by omega) (by omega)
  have hw2 : IntKind.i64.wrap ((n : Int) + 1 + dn) = (t : Int) := by rw [wrap_small _ (by omega) (by omega)]; omega
  have hf1 : 0 + n ≤ t := by omega
  have hf2 : n + 1 ≤ t := by omega
  have hf3 : n + 1 + dn ≤ t := by omega
  have htb : t ≤ 40000 := by omega
  clear ht
  go_wp2_with (at_make; refine wpList_make_own _ rfl _ _ 22 rfl w2.heap.size 5 i0 (.int .u8 0) 1 Tryf.underlying22 hinfo hz0 hz1 _ _ _ t rfl rfl (by omega) ?b2 ?b3 (Nat.le_refl _) ?_)
  case b2 => rw [hz2]; omega
  case b3 => unfold maxLen; omega
  intro w3 hown3 hgrow3
  have X3 : Hid (CellsAt w3 ad Px) := X2.out.below ⟨hgrow3.os, hgrow3.tape, hgrow3.output, hgrow3.size, fun j hj => hgrow3.block j hj (by simp)⟩
  go_wp2_with (first | (at_builtin; refine wpList_append_fits _ rfl (.tmp 53) (.tmp 54) 22 rfl w2.heap.size 5 i0 1 Tryf.underlying22 hinfo hz1 w2.heap.size 0 t _ rfl hown3 ad n c (Lib.byteCells Px) rfl (by rw [byteCells_len, hn]; simp) X3.out (byteCells_one Px) hf1 ?_; intro w4 hown4 hgrow4; simp only [Nat.zero_add, List.nil_append] at hown4) | (at_builtin; refine wpList_append_fits _ rfl (.tmp 56) (.tmp 57) 22 rfl w2.heap.size 5 i0 1 Tryf.underlying22 hinfo hz1 w2.heap.size n t _ rfl (hown4.alloc _) ⟨_, 0, none⟩ 1 1 [.int .u8 32] rfl rfl cell_one (one_u8 _) hf2 ?_; intro w5 hown5 hgrow5) | (at_builtin; refine wpList_append_fits _ rfl (.tmp 59) (.tmp 60) 22 rfl w2.heap.size 5 i0 1 Tryf.underlying22 hinfo hz1 w2.heap.size (n + 1) t _ rfl hown5 ⟨w.heap.size, 0, none⟩ dn dn (Lib.byteCells Pd) rfl (by rw [byteCells_len, hdn]; simp) (bytesAt_cells (Y2.out.below (below3 hgrow3 hgrow4 hgrow5))) (byteCells_one Pd) hf3 ?_; intro w6 hown6 hgrow6))
  have Y6 : Hid (BytesAt w6 w2.heap.size 0 (Px ++ 32 :: Pd)) := own_bytes (n := n + 1 + dn) (cap := t) (by rw [show Lib.byteCells (Px ++ 32 :: Pd) = Lib.byteCells Px ++ [.int .u8 32] ++ Lib.byteCells Pd by simp [Lib.byteCells]]; exact hown6)
  have HB26 : Hid (Below w2.heap.size w2 w6) := below_later (below3 hgrow3 hgrow4 hgrow5) hgrow6
  have B6 : Hid (Below w.heap.size w w6) := B2.out.trans (HB26.out.mono B2.out.size)
  have HS6 : Hid (Sent w6 B a0 a1 a2 a3 s0) := HS.out.kept ((Kept.refl [] w).below B6.out) (by simp)
  clear hown3 hgrow3 hown4 hgrow4 hown5 hgrow5 hown6 hgrow6
  refine (zz_any F w6 B (n + 1 + dn) t (some ⟨w2.heap.size, 0, none⟩) (Px ++ 32 :: Pd) a0 a1 a2 a3 s0 (by rw [B6.out.tape]; exact hF) (by simp; omega) (by omega) hf3 (fun _ => ⟨_, _, rfl, Y6.out⟩) HS6.out).mono ?_
  rintro e w7 ⟨v2, f2, p2, u2, rfl, ho2, hb7⟩
  rw [Plain.req_prefix Px Pd HBare.out] at ho2
  have HB27 : Hid (Below w2.heap.size w2 w7) := HB26.out.trans (hb7.mono HB26.out.size)
  have B7 : Hid (Below w.heap.size w w7) := B6.out.trans (hb7.mono B6.out.size)
  obtain ⟨rfl, rfl, rfl, hcase⟩ := out_prefix HO.out ho2
  clear ho2 hb7
  rcases hcase with ⟨rfl, rfl, rfl⟩ | ⟨rfl, ws, k, va, vc, va2, vc2, hreq, hk, rfl, rfl, hwa, hwb⟩
  · go_wp2
    go_ret
    exact ⟨by simp, B7.out⟩
  · obtain ⟨hk1, hk2⟩ := Plain.req_bounds hreq
    obtain ⟨-, -, hata⟩ := (hwa.below HB27.out).at
    obtain ⟨-, hle2, hatb⟩ := hwb.at
    obtain ⟨b2, o2, rfl, hcell⟩ := hatb (by simp)
    obtain ⟨a', c', e0, l0⟩ := hcell 0 Px rfl
    rw [Nat.add_zero, hn] at e0
    have X7 : Hid (CellsAt w7 ad Px) := HX.out.below B7.out
    have L0 : Hid (Leads w7 a' Px) := l0
    have HWT : Hid (WordsAt w7 (some ⟨b2, o2 + 1, none⟩) ws) := words_tail hcell
    have HWA : Hid (WordsAt w7 va ws) := hata
    have HXB : Hid (∀ x ∈ ws, x.length ≤ 1000000) := fun x hx => by have := hk2 x hx; omega
    clear hcell hata hatb l0 hwa hwb hreq hk2 HO
    have hkb : k ≤ 40000 := by omega
    have hkw : IntKind.i64.wrap ((k : Int) + 1) = (k : Int) + 1 := wrap_small _ (by omega) (by omega)
    go_wp2_with fail
    refine (eq_any w7 a' (some ad) n c' c Px hn (by omega) L0.out (fun _ => ⟨ad, rfl, X7.out⟩)).mono ?_
    rintro e w8 ⟨rfl, m, rfl⟩
    have hk1z : (1 : Int) ≤ (k : Int) + 1 := by omega
    by_cases hv1 : vc2 = 1
    · have HW0 : Hid (∀ a, WordsAt w7 a ws) := fun a hne => absurd (List.length_eq_zero_iff.1 (by omega)) hne
      go_wp2_with fail
      refine (same_any (w7.drewN m) _ va k _ vc ws hk (by omega) HXB.out (by exact HW0.out _) (by exact HWA.out)).mono ?_
      rintro e w9 ⟨rfl, m9, rfl⟩
      go_wp2
      go_ret
      exact ⟨rfl, ⟨B7.out.os, B7.out.tape, B7.out.output, B7.out.size, B7.out.block⟩⟩
    · go_wp2_with fail
      refine (same_any (w7.drewN m) _ va k _ vc ws hk (by omega) HXB.out (by exact HWT.out) (by exact HWA.out)).mono ?_
      rintro e w9 ⟨rfl, m9, rfl⟩
      go_wp2
      go_ret
      exact ⟨rfl, ⟨B7.out.os, B7.out.tape, B7.out.output, B7.out.size, B7.out.block⟩⟩

set_option maxHeartbeats 4000000 in
set_option maxRecDepth 100000 in
theorem prefix_nil (F : Interp) (w : World) (B n c : Nat) (A : Option Addr) (Px : List UInt8) (a0 a1 a2 a3 : Addr) (s0 : ByteArray) (hF : F.answers w.tape) (hs : Sent w B a0 a1 a2 a3 s0) (hx : Leads w A Px) (hn : Px.length = n) :
    Calls Tryf.prog 3 #[.slice A n c, .slice none 0 0] w fun x w' => x = .returned (.bool true) ∧ Below w.heap.size w w' := by
  obtain ⟨i0, hinfo, hz0, hz1, hz2⟩ := info_parts Tryf.info5
  have HS : Hid (Sent w B a0 a1 a2 a3 s0) := hs
  clear hs
  rcases Classical.em (¬ (n ≤ 4096)) with hbig | hbig
  · go_enter Tryf.func3, Tryf.ntmps3
    go_wp2_with fail
    refine (bound6 _ _ _ n c 0 0).mono ?_
    rintro e w' ⟨⟨b, rfl⟩, hw⟩
    rw [hw]
    clear hw
    cases b
    · go_wp2
      go_ret
      exact ⟨rfl, Below.refl _ _⟩
    · have hz : (4096 : Int) < n := by omega
      go_wp2
      go_ret
      exact ⟨rfl, Below.refl _ _⟩
  have hbn : n ≤ 4096 := Classical.not_not.1 hbig
  clear hbig
  have hzn : ¬ (4096 : Int) < n := by omega
  go_enter Tryf.func3, Tryf.ntmps3
  go_wp2_with fail
  refine (bound6 _ _ _ n c 0 0).mono ?_
  rintro e w' ⟨⟨b, rfl⟩, hw⟩
  rw [hw]
  clear hw
  cases b
  · go_wp2
    go_ret
    exact ⟨rfl, Below.refl _ _⟩
  go_wp2_with fail
  refine (bareWord_any w A n c Px hn (by omega) hx).mono ?_
  rintro e w' ⟨⟨b, rfl, hbare⟩, hw⟩
  rw [hw]
  clear hw
  cases b
  · go_wp2
    go_ret
    exact ⟨rfl, Below.refl _ _⟩
  have HBare : Hid (Plain.Bare Px) := hbare rfl
  clear hbare
  obtain ⟨ad, rfl, hX⟩ := hx HBare.out.1
  have HX : Hid (CellsAt w ad Px) := hX
  clear hX hx
  have B1 : Hid (Below w.heap.size w w) := Below.refl _ _
  have HS1 : Hid (Sent w B a0 a1 a2 a3 s0) := HS.out
  go_wp2_with fail
  refine (zz_any F w B 0 0 none [] a0 a1 a2 a3 s0 hF rfl (by omega) (by omega) (fun h => absurd rfl h) HS.out).mono ?_
  rintro e w2 ⟨v, f, p, u, rfl, ho, hb2⟩
  have HO : Hid (Out w2 (Plain.req []) v f p u) := ho
  have B2 : Hid (Below w.heap.size w w2) := B1.out.trans (hb2.mono B1.out.size)
  have X2 : Hid (CellsAt w2 ad Px) := HX.out.below B2.out
  clear ho hb2
  obtain ⟨t, ht⟩ : ∃ t, t = n + 1 + 0 := ⟨_, rfl⟩
  have hw1 : IntKind.i64.wrap ((n : Int) + 1) = (n : Int) + 1 := wrap_small _ (by omega) (by omega)
  have hw2 : IntKind.i64.wrap ((n : Int) + 1 + 0) = (t : Int) := by rw [wrap_small _ (by omega) (by omega)]; omega
  have hw2' : (n : Int) + 1 = (t : Int) := by omega
  have hf1 : 0 + n ≤ t := by omega
  have hf2 : n + 1 ≤ t := by omega
  have hf3 : n + 1 + 0 ≤ t := by omega
  have htb : t ≤ 40000 := by omega
  clear ht
  go_wp2_with (at_make; refine wpList_make_own _ rfl _ _ 22 rfl w2.heap.size 5 i0 (.int .u8 0) 1 Tryf.underlying22 hinfo hz0 hz1 _ _ _ t rfl rfl (by omega) ?b2 ?b3 (Nat.le_refl _) ?_)
  case b2 => rw [hz2]; omega
  case b3 => unfold maxLen; omega
  intro w3 hown3 hgrow3
  have X3 : Hid (CellsAt w3 ad Px) := X2.out.below ⟨hgrow3.os, hgrow3.tape, hgrow3.output, hgrow3.size, fun j hj => hgrow3.block j hj (by simp)⟩
  go_wp2_with (first | (at_builtin; refine wpList_append_fits _ rfl (.tmp 53) (.tmp 54) 22 rfl w2.heap.size 5 i0 1 Tryf.underlying22 hinfo hz1 w2.heap.size 0 t _ rfl hown3 ad n c (Lib.byteCells Px) rfl (by rw [byteCells_len, hn]; simp) X3.out (byteCells_one Px) hf1 ?_; intro w4 hown4 hgrow4; simp only [Nat.zero_add, List.nil_append] at hown4) | (at_builtin; refine wpList_append_fits _ rfl (.tmp 56) (.tmp 57) 22 rfl w2.heap.size 5 i0 1 Tryf.underlying22 hinfo hz1 w2.heap.size n t _ rfl (hown4.alloc _) ⟨_, 0, none⟩ 1 1 [.int .u8 32] rfl rfl cell_one (one_u8 _) hf2 ?_; intro w5 hown5 hgrow5) | (at_builtin; refine wpList_append_own_none rfl (.tmp 59) (.tmp 60) 22 rfl w2.heap.size 5 i0 1 Tryf.underlying22 hinfo _ (n + 1) _ rfl hown5 rfl ?_))
  have Y6 : Hid (BytesAt w5 w2.heap.size 0 (Px ++ 32 :: [])) := own_bytes (n := n + 1) (cap := t) (by rw [show Lib.byteCells (Px ++ 32 :: []) = Lib.byteCells Px ++ [.int .u8 32] by simp [Lib.byteCells]]; exact hown5)
  have B6 : Hid (Below w.heap.size w w5) := B2.out.trans ((below3 hgrow3 hgrow4 hgrow5).mono B2.out.size)
  have HB26 : Hid (Below w2.heap.size w2 w5) := below3 hgrow3 hgrow4 hgrow5
  have HS6 : Hid (Sent w5 B a0 a1 a2 a3 s0) := HS.out.kept ((Kept.refl [] w).below B6.out) (by simp)
  clear hown3 hgrow3 hown4 hgrow4 hown5 hgrow5
  refine (zz_any F w5 B (n + 1) t (some ⟨w2.heap.size, 0, none⟩) (Px ++ 32 :: []) a0 a1 a2 a3 s0 (by rw [B6.out.tape]; exact hF) (by simp; omega) (by omega) hf2 (fun _ => ⟨_, _, rfl, Y6.out⟩) HS6.out).mono ?_
  rintro e w7 ⟨v2, f2, p2, u2, rfl, ho2, hb7⟩
  rw [Plain.req_prefix Px [] HBare.out] at ho2
  have HB27 : Hid (Below w2.heap.size w2 w7) := HB26.out.trans (hb7.mono HB26.out.size)
  have B7 : Hid (Below w.heap.size w w7) := B6.out.trans (hb7.mono B6.out.size)
  obtain ⟨rfl, rfl, rfl, hcase⟩ := out_prefix HO.out ho2
  clear ho2 hb7
  rcases hcase with ⟨rfl, rfl, rfl⟩ | ⟨rfl, ws, k, va, vc, va2, vc2, hreq, hk, rfl, rfl, hwa, hwb⟩
  · go_wp2
    go_ret
    exact ⟨by simp, B7.out⟩
  · obtain ⟨hk1, hk2⟩ := Plain.req_bounds hreq
    simp only [List.length_nil] at hk1 hk2
    obtain ⟨-, -, hata⟩ := (hwa.below HB27.out).at
    obtain ⟨-, hle2, hatb⟩ := hwb.at
    obtain ⟨b2, o2, rfl, hcell⟩ := hatb (by simp)
    obtain ⟨a', c', e0, l0⟩ := hcell 0 Px rfl
    rw [Nat.add_zero, hn] at e0
    have X7 : Hid (CellsAt w7 ad Px) := HX.out.below B7.out
    have L0 : Hid (Leads w7 a' Px) := l0
    have HWT : Hid (WordsAt w7 (some ⟨b2, o2 + 1, none⟩) ws) := words_tail hcell
    have HWA : Hid (WordsAt w7 va ws) := hata
    have HXB : Hid (∀ x ∈ ws, x.length ≤ 1000000) := fun x hx => by have := hk2 x hx; omega
    clear hcell hata hatb l0 hwa hwb hreq hk2 HO
    have hkb : k ≤ 40000 := by omega
    have hkw : IntKind.i64.wrap ((k : Int) + 1) = (k : Int) + 1 := wrap_small _ (by omega) (by omega)
    go_wp2_with fail
    refine (eq_any w7 a' (some ad) n c' c Px hn (by omega) L0.out (fun _ => ⟨ad, rfl, X7.out⟩)).mono ?_
    rintro e w8 ⟨rfl, m, rfl⟩
    have hk1z : (1 : Int) ≤ (k : Int) + 1 := by omega
    by_cases hv1 : vc2 = 1
    · have HW0 : Hid (∀ a, WordsAt w7 a ws) := fun a hne => absurd (List.length_eq_zero_iff.1 (by omega)) hne
      go_wp2_with fail
      refine (same_any (w7.drewN m) _ va k _ vc ws hk (by omega) HXB.out (by exact HW0.out _) (by exact HWA.out)).mono ?_
      rintro e w9 ⟨rfl, m9, rfl⟩
      go_wp2
      go_ret
      exact ⟨rfl, ⟨B7.out.os, B7.out.tape, B7.out.output, B7.out.size, B7.out.block⟩⟩
    · go_wp2_with fail
      refine (same_any (w7.drewN m) _ va k _ vc ws hk (by omega) HXB.out (by exact HWT.out) (by exact HWA.out)).mono ?_
      rintro e w9 ⟨rfl, m9, rfl⟩
      go_wp2
      go_ret
      exact ⟨rfl, ⟨B7.out.os, B7.out.tape, B7.out.output, B7.out.size, B7.out.block⟩⟩

end Go.Proofs.Qxb6616016aFmt
