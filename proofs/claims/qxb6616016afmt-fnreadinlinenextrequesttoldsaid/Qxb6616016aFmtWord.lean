import Derived.Test.Qxb6616016aFmtQuoted
namespace Go.Proofs.Qxb6616016aFmt
open Go.RowKit

theorem word_stop (c : UInt8) (t : List UInt8) (h : c = 32 ∨ c = 9 ∨ c = 13 ∨ c = 10) : Plain.word (c :: t) = some ([], c :: t) := by rw [Plain.word, if_pos h]
theorem word_quote (c : UInt8) (t : List UInt8) (h : c = 34 ∨ c = 39) : Plain.word (c :: t) = Plain.quoted c t := by
  rw [Plain.word, if_neg (by rcases h with rfl | rfl <;> decide), if_pos h]
theorem word_push (c : UInt8) (t : List UInt8) (h1 : c ≠ 32) (h2 : c ≠ 9) (h3 : c ≠ 13) (h4 : c ≠ 10) (h5 : c ≠ 34) (h6 : c ≠ 39) : Plain.word (c :: t) = Plain.push c (Plain.word t) := by
  rw [Plain.word, if_neg (by simp [h1, h2, h3, h4]), if_neg (by simp [h5, h6])]

/-- appendQuoted's contract, its numbers as letters. -/
theorem quoted_at (base g cap lb lo lcap n : Nat) (z : Int) (L acc : List UInt8) (i : Nat) (q : UInt8) (w : World) (hn : acc.length = n) (hz : z = (i : Int))
    (hown : w.ownsRow base 5 1 (.slice (some ⟨g, 0, none⟩) n cap) n (Lib.byteCells acc)) (hL : BytesAt w lb lo L) (hne : lb ≠ g) (hi : i ≤ L.length) (hcap : n + (L.length - i) ≤ cap) (hlc : L.length ≤ lcap) (hbig : L.length ≤ 1000000) :
    Calls Tryf.prog 40 #[.slice (some ⟨g, 0, none⟩) n cap, .slice (some ⟨lb, lo, none⟩) L.length lcap, .int .i64 z, .int .u8 q.toNat] w fun e w' =>
      WordRes base g cap L acc (Plain.quoted q (L.drop i)) e w' ∧ w.grownBy w' (some g) := by
  subst hn hz
  exact quoted_any base g cap lb lo lcap L acc i q w hown hL hne hi hcap hlc hbig

set_option maxHeartbeats 1000000 in
set_option maxRecDepth 100000 in
/-- appendWord -/
theorem word_any (base g cap lb lo lcap : Nat) (L acc : List UInt8) (i : Nat) (w : World)
    (hown : w.ownsRow base 5 1 (.slice (some ⟨g, 0, none⟩) acc.length cap) acc.length (Lib.byteCells acc)) (hL : BytesAt w lb lo L) (hne : lb ≠ g) (hi : i ≤ L.length) (hcap : acc.length + (L.length - i) ≤ cap) (hlc : L.length ≤ lcap) (hbig : L.length ≤ 1000000) :
    Calls Tryf.prog 36 #[.slice (some ⟨g, 0, none⟩) acc.length cap, .slice (some ⟨lb, lo, none⟩) L.length lcap, .int .i64 i] w fun e w' =>
      WordRes base g cap L acc (Plain.word (L.drop i)) e w' ∧ w.grownBy w' (some g) := by
  obtain ⟨i0, hinfo, hz0, hz1, hz2⟩ := info_parts Tryf.info5
  go_enter Tryf.func36, Tryf.ntmps36
  go_wp2
  go_loopw [0, 2] (fun room si wr => ∃ (k : Nat) (p : List UInt8), k ≤ L.length ∧ si = .int .i64 k ∧ room = .slice (some ⟨g, 0, none⟩) (acc ++ p).length cap ∧
      wr.ownsRow base 5 1 (.slice (some ⟨g, 0, none⟩) (acc ++ p).length cap) (acc ++ p).length (Lib.byteCells (acc ++ p)) ∧ (acc ++ p).length + (L.length - k) ≤ cap ∧
      Plain.word (L.drop i) = pushL p (Plain.word (L.drop k)) ∧ w.grownBy wr (some g))
    (fun _ si _ => L.length - (intOf si).toNat)
  case atStart => exact ⟨i, [], hi, rfl, by simp, by simpa using hown, by simpa using hcap, by rw [pushL_nil], grown_refl _ _⟩
  case round =>
    obtain ⟨k, p, hk, rfl, rfl, hownr, hcapr, hx, hgr⟩ := hrel
    have HX : Hid (Plain.word (L.drop i) = pushL p (Plain.word (L.drop k))) := hx
    clear hx
    by_cases hlt : k < L.length
    · have hLr : BytesAt wr lb lo L := hL.grown (by rintro rfl; simp at hlt) hgr hne
      have hc0 := hLr.at k hlt
      obtain ⟨c, hc⟩ : ∃ c : UInt8, L[k]'hlt = c := ⟨_, rfl⟩
      rw [hc] at hc0
      have HD : Hid (L.drop k = c :: L.drop (k + 1)) := by show L.drop k = _; rw [List.drop_eq_getElem_cons hlt, hc]
      clear hc
      by_cases hstop : c = 32 ∨ c = 9 ∨ c = 13 ∨ c = 10
      · have HS : Hid (c = 32 ∨ c = 9 ∨ c = 13 ∨ c = 10) := hstop
        have HF : Hid (Plain.word (L.drop i) = some (p, L.drop k)) := by
          show Plain.word (L.drop i) = some (p, L.drop k)
          rw [HX.out, HD.out, word_stop c _ HS.out]; simp [pushL]
        generalize hn : (acc ++ p).length = n at *
        have fin : ∀ z : Int, z = (k : Int) → WordRes base g cap L acc (Plain.word (L.drop i)) (.returned (.tuple #[.slice (some ⟨g, 0, none⟩) n cap, .int .i64 z, .bool true])) wr := fun z hz =>
          WordRes.some HF.out hn (by rw [hz, List.length_drop]; omega) hownr
        have FIN : Hid _ := fin
        clear fin
        rcases hstop with rfl | rfl | rfl | rfl
        all_goals
          go_wp2
          go_ret3
          exact ⟨FIN.out _ rfl, hgr⟩
      · have n1 : c ≠ 32 := fun e => hstop (.inl e)
        have n2 : c ≠ 9 := fun e => hstop (.inr (.inl e))
        have n3 : c ≠ 13 := fun e => hstop (.inr (.inr (.inl e)))
        have n4 : c ≠ 10 := fun e => hstop (.inr (.inr (.inr e)))
        have b1 : ((c.toNat : Int) == 32) = false := beq_no c 32 (by omega) n1
        have b2 : ((c.toNat : Int) == 9) = false := beq_no c 9 (by omega) n2
        have b3 : ((c.toNat : Int) == 13) = false := beq_no c 13 (by omega) n3
        have b4 : ((c.toNat : Int) == 10) = false := beq_no c 10 (by omega) n4
        have HN : Hid (c ≠ 32 ∧ c ≠ 9 ∧ c ≠ 13 ∧ c ≠ 10) := ⟨n1, n2, n3, n4⟩
        clear n1 n2 n3 n4 hstop
        by_cases hq : c = 34 ∨ c = 39
        · have HF : Hid (Plain.word (L.drop i) = pushL p (Plain.quoted c (L.drop (k + 1)))) := by
            show Plain.word (L.drop i) = _
            rw [HX.out, HD.out, word_quote c _ hq]
          have hqq : ((c.toNat : Int) == 34) = true ∨ (((c.toNat : Int) == 34) = false ∧ ((c.toNat : Int) == 39) = true) := by
            rcases hq with rfl | rfl
            · exact .inl rfl
            · exact .inr ⟨rfl, rfl⟩
          clear hq
          generalize hn : (acc ++ p).length = n at *
          rcases hqq with hq1 | ⟨hq1, hq2⟩
          all_goals
            go_wp2_with fail
            refine (quoted_at base g cap lb lo lcap n _ L (acc ++ p) (k + 1) c _ hn (by omega) hownr hLr hne (by omega) (by omega) hlc hbig).mono ?_
            rintro e w1 ⟨hres, hg1⟩
            cases hqr : Plain.quoted c (L.drop (k + 1)) with
            | none =>
              rw [hqr] at hres
              have he : e = .returned (.tuple #[.slice none 0 0, .int .i64 0, .bool false]) := hres
              subst he
              clear hres
              have HQR : Hid (Plain.quoted c (L.drop (k + 1)) = none) := hqr
              clear hqr
              go_wp2
              go_ret3
              exact ⟨WordRes.none (by rw [HF.out, HQR.out]; rfl), grown_trans hgr hg1⟩
            | some xr =>
              obtain ⟨x, r⟩ := xr
              rw [hqr] at hres
              obtain ⟨he, ho⟩ := hres
              subst he
              have HQR : Hid (Plain.quoted c (L.drop (k + 1)) = some (x, r)) := hqr
              clear hqr
              have HO : Hid _ := ho
              clear ho
              go_wp2
              go_ret3
              exact ⟨WordRes.some (x := p ++ x) (r := r) (by rw [HF.out, HQR.out]; rfl) (by simp) rfl (by have := HO.out; rw [List.append_assoc] at this; rw [show acc.length + (p.length + x.length) = (acc ++ (p ++ x)).length from by simp]; exact this), grown_trans hgr hg1⟩
        · have b5 : ((c.toNat : Int) == 34) = false := beq_no c 34 (by omega) (fun e => hq (.inl e))
          have b6 : ((c.toNat : Int) == 39) = false := beq_no c 39 (by omega) (fun e => hq (.inr e))
          have HST : Hid (Plain.word (L.drop k) = Plain.push c (Plain.word (L.drop (k + 1)))) := by
            show Plain.word (L.drop k) = _
            rw [HD.out, word_push c _ HN.out.1 HN.out.2.1 HN.out.2.2.1 HN.out.2.2.2 (fun e => hq (.inl e)) (fun e => hq (.inr e))]
          clear hq
          generalize hn : (acc ++ p).length = n at *
          go_wp2_with (at_builtin; refine wpList_append_fits _ rfl (.tmp 19) (.tmp 21) 22 rfl base 5 i0 1 Tryf.underlying22 hinfo hz1 g n cap _ rfl (hownr.alloc _) ⟨_, 0, none⟩ 1 1 [.int .u8 c.toNat] rfl rfl cell_one (one_u8 _) (by omega) ?_; intro w1 hown1 hgrow1)
          go_roundw
          case rel => exact rel_push (m := 1) (by omega) (by omega) (by omega) hn hcapr HX.out HST.out hgr hown1 (grown_alloc1 hgrow1)
          case measure => simp [intOf]; omega
    · have HF : Hid (Plain.word (L.drop i) = some (p, [])) := by
        show Plain.word (L.drop i) = _
        rw [HX.out, List.drop_of_length_le (by omega)]; simp [pushL, Plain.word]
      go_wp2
      go_ret3
      exact ⟨WordRes.some HF.out rfl (by simp; omega) hownr, hgr⟩
end Go.Proofs.Qxb6616016aFmt
