import Derived.Test.Qxb6616016aFmtZz
import Derived.Laws.AppendOwnNone
namespace Go.Proofs.Qxb6616016aFmt
open Go.RowKit Go.Extern.Stop Go.Stop Go.Extern

set_option maxHeartbeats 1000000 in
/-- the bound of FnCutRequestIsUnexpectedEOF. -/
theorem bound13 (w : World) (D : Option Addr) (dn dc : Nat) (b : Bool) (hb : decide (dn ≤ 1048576) = b) :
    Calls Tryf.prog 13 #[.slice D dn dc] w fun e w' => e = .returned (.bool b) ∧ w' = w := by
  by_cases h : dn ≤ 1048576
  · rw [decide_eq_true h] at hb
    subst hb
    go_enter Tryf.func13, Tryf.ntmps13
    go_wp2
    go_ret
    exact ⟨rfl, rfl⟩
  · rw [decide_eq_false h] at hb
    subst hb
    have hz : (1048576 : Int) < dn := by omega
    go_enter Tryf.func13, Tryf.ntmps13
    go_wp2
    go_ret
    exact ⟨rfl, rfl⟩

/-- the bytes P lie from ad on. -/
def CellsAt (w : World) (ad : Addr) (P : List UInt8) : Prop := ∀ j v, (Lib.byteCells P)[j]? = some v → w.cell? (ad.add j) = some v

theorem own_bytes {w : World} {base g n cap : Nat} {l : List UInt8} (h : w.ownsRow base 5 1 (.slice (some ⟨g, 0, none⟩) n cap) n (Lib.byteCells l)) : BytesAt w g 0 l := fun j x hx => by
  have := h.cells (g := g) rfl j (.int .u8 (x.toNat : Int)) (by simp [Lib.byteCells, hx])
  rw [add_at] at this; exact this

/-- the same stream ended by a line feed: no end-of-stream error. -/
theorem out_line {w : World} {P : List UInt8} {v : Value} {f p u : Bool} (hn : 10 ∉ P) (h : Out w (Plain.req (P ++ [10])) v f p u) : u = false ∧ f = p := by
  unfold Plain.req at h
  rw [Plain.line_yes P [] hn] at h
  simp only [Option.map_some] at h
  cases hs : Plain.split (Plain.trim P) with
  | none => rw [hs] at h; exact ⟨h.2.2.2, h.2.1.trans h.2.2.1.symm⟩
  | some ws => rw [hs] at h; exact ⟨h.2.2.2.1, h.2.1.trans h.2.2.1.symm⟩
theorem out_none {w : World} {P : List UInt8} {v : Value} {f p u : Bool} (hn : 10 ∉ P) (h : Out w (Plain.req P) v f p u) : v = .slice none 0 0 ∧ f = true ∧ p = false ∧ u = true := by
  unfold Plain.req at h
  rw [Plain.line_not P hn] at h
  exact h

set_option maxHeartbeats 2000000 in
set_option maxRecDepth 100000 in
/-- FnCutRequestIsUnexpectedEOF of nil. -/
theorem cut_nil (F : Interp) (w : World) (B : Nat) (a0 a1 a2 a3 : Addr) (s0 : ByteArray) (hF : F.answers w.tape) (hs : Sent w B a0 a1 a2 a3 s0) :
    Calls Tryf.prog 5 #[.slice none 0 0] w fun x w' => x = .returned (.bool true) ∧ Below w.heap.size w w' := by
  obtain ⟨i0, hinfo, hz0, hz1, hz2⟩ := info_parts Tryf.info5
  have HS : Hid (Sent w B a0 a1 a2 a3 s0) := hs
  clear hs
  go_enter Tryf.func5, Tryf.ntmps5
  go_wp2_with (go_at_call 13; refine (bound13 _ none 0 0 true (by rfl)).mono ?_; rintro e w' ⟨rfl, hw⟩; rw [hw]; clear hw)
  refine wp_loop_rounds 1 ?_
  rw [rounds_succ]
  go_wp2_with fail
  refine (zz_any F w B 0 0 none [] a0 a1 a2 a3 s0 hF rfl (by omega) (by omega) (fun h => absurd rfl h) HS.out).mono ?_
  rintro e w1 ⟨v, f, p, u, rfl, ho, hb1⟩
  obtain ⟨rfl, rfl, rfl, rfl⟩ := out_none (by simp) ho
  have B1 : Hid (Below w.heap.size w w1) := hb1
  have HS1 : Hid (Sent w1 B a0 a1 a2 a3 s0) := HS.out.kept ((Kept.refl [] w).below hb1) (by simp)
  clear ho hb1
  go_wp2_with (at_make; refine wpList_make_own _ rfl _ _ 22 rfl w1.heap.size 5 i0 (.int .u8 0) 1 Tryf.underlying22 hinfo hz0 hz1 _ _ _ 1 rfl rfl (by omega) ?b2 ?b3 (Nat.le_refl _) ?_)
  case b2 => rw [hz2]; omega
  case b3 => unfold maxLen; omega
  intro w2 hown2 hgrow2
  go_wp2_with (first | (at_builtin; refine wpList_append_own_none rfl (.tmp 51) (.tmp 52) 22 rfl w1.heap.size 5 i0 1 Tryf.underlying22 hinfo _ 0 [] rfl hown2 rfl ?_) | (at_builtin; refine wpList_append_fits _ rfl (.tmp 54) (.tmp 55) 22 rfl w1.heap.size 5 i0 1 Tryf.underlying22 hinfo hz1 w1.heap.size 0 1 _ rfl (hown2.alloc _) ⟨_, 0, none⟩ 1 1 [.int .u8 10] rfl rfl cell_one (one_u8 _) (by omega) ?_; intro w3 hown3 hgrow3))
  have B3 : Hid (Below w.heap.size w w3) := B1.out.trans (((Below.refl w1.heap.size w1).grown hgrow2 (Nat.le_refl _) (fun k h => by cases h) |>.alloc (hgrow2.size) _ |>.trans (grown_below hgrow3 (by simp; have := hgrow2.size; omega) (Nat.le_refl _))).mono B1.out.size)
  have HS3 : Hid (Sent w3 B a0 a1 a2 a3 s0) := HS.out.kept ((Kept.refl [] w).below B3.out) (by simp)
  have Y3 : Hid (BytesAt w3 w1.heap.size 0 [10]) := own_bytes (l := [10]) hown3
  clear hown2 hown3 hgrow2 hgrow3
  refine (zz_any F w3 B 1 1 (some ⟨w1.heap.size, 0, none⟩) [10] a0 a1 a2 a3 s0 (by rw [B3.out.tape]; exact hF) rfl (by omega) (by omega) (fun _ => ⟨_, _, rfl, Y3.out⟩) HS3.out).mono ?_
  rintro e w4 ⟨v2, f2, p2, u2, rfl, ho2, hb4⟩
  obtain ⟨rfl, rfl⟩ := out_line (P := []) (by simp) ho2
  have B4 : Hid (Below w.heap.size w w4) := B3.out.trans (hb4.mono B3.out.size)
  clear ho2 hb4
  go_wp2
  go_ret
  exact ⟨by simp, B4.out⟩

set_option maxHeartbeats 2000000 in
set_option maxRecDepth 100000 in
/-- FnCutRequestIsUnexpectedEOF of a slice that is not nil. -/
theorem cut_some (F : Interp) (w : World) (B dn dc : Nat) (ad : Addr) (P : List UInt8) (a0 a1 a2 a3 : Addr) (s0 : ByteArray) (hF : F.answers w.tape) (hs : Sent w B a0 a1 a2 a3 s0) (hP : CellsAt w ad P) (hdn : P.length = dn) :
    Calls Tryf.prog 5 #[.slice (some ad) dn dc] w fun x w' => x = .returned (.bool true) ∧ Below w.heap.size w w' := by
  obtain ⟨i0, hinfo, hz0, hz1, hz2⟩ := info_parts Tryf.info5
  have HS : Hid (Sent w B a0 a1 a2 a3 s0) := hs
  have HP : Hid (CellsAt w ad P) := hP
  clear hs hP
  by_cases hbig : dn ≤ 32768
  · have hmk := run_make (P := Tryf.prog) w 22 5 i0 (.int .u8 0) Tryf.underlying22 hinfo hz0 .i64 .i64 dn dn (by omega) (by omega) (by rw [hz2]; omega) (by omega)
    simp only [Int.toNat_natCast, hz1, Nat.mul_one] at hmk
    generalize hmc : madeCells (Value.int .u8 0).cells dn = mc at hmk
    have HMC : Hid (mc.size = dn) := by show mc.size = dn; rw [← hmc, size_madeCells]
    clear hmc
    have HFT : Hid (0 + (Lib.byteCells P).length ≤ mc.toList.length) := by show 0 + (Lib.byteCells P).length ≤ mc.toList.length; rw [byteCells_len, show mc.toList.length = mc.size from by simp, HMC.out]; omega
    have HG0 : Hid ((w.alloc (.cells mc 5)).heap[w.heap.size]? = some (.cells mc.toList.toArray 5 (0, 0))) := by
      show (w.alloc (.cells mc 5)).heap[w.heap.size]? = some (.cells mc.toList.toArray 5 (0, 0))
      rw [Array.toArray_toList]
      exact heap_alloc_new w _
    have hzz : ¬ (32768 : Int) < dn := by omega
    go_enter Tryf.func5, Tryf.ntmps5
    go_wp2_with (first | (go_at_call 13; refine (bound13 _ _ dn dc true (by simp; omega)).mono ?_; rintro e w' ⟨rfl, hw⟩; rw [hw]; clear hw) | (refine wpList_copy_splice (by rfl) (.tmp 25) (.tmp 26) 22 22 (by rfl) 5 Tryf.underlying22 Tryf.size5 _ _ _ _ _ _ (by rfl) (by rfl) w.heap.size 0 mc.toList 5 HG0.out (Lib.byteCells P) (by rw [byteCells_len, hdn]; exact (Nat.min_self dn).symm) (fun hp => ⟨rfl, _, rfl, fun j u hu => cell_later ((Below.refl _ w).alloc (Nat.le_refl _) _) (HP.out j u hu)⟩) HFT.out (byteCells_one P) w.heap.size w ((Below.refl _ w).alloc (Nat.le_refl _) _) (Nat.le_refl _) ?_; intro w1 HG1 hB1))
    have Y1 : Hid (BytesAt w1 w.heap.size 0 P) := bytesAt_splice (cur := mc.toList) (o := 0) HG1.out (Nat.zero_le _)
    have B1 : Hid (Below w.heap.size w w1) := hB1
    have HS1 : Hid (Sent w1 B a0 a1 a2 a3 s0) := HS.out.kept ((Kept.refl [] w).below hB1) (by simp)
    have hG1 : w.heap.size < w1.heap.size := Cells.lt (cs := splice mc.toList 0 (Lib.byteCells P)) (t := 5) HG1.out
    clear hB1 HG1 HG0 HFT hmk
    go_loop [4] (fun t => ∃ k : Nat, t = .int .i64 k ∧ k ≤ dn ∧ 10 ∉ P.take k) (fun t => dn - (intOf t).toNat)
    case atStart => exact ⟨0, rfl, Nat.zero_le _, by simp⟩
    case round =>
      obtain ⟨k, rfl, hk, hnot⟩ := hrel
      have HN : Hid (10 ∉ P.take k) := hnot
      clear hnot
      by_cases hlt : k < dn
      · have hc0 := Y1.out.at k (by omega)
        rw [Nat.zero_add] at hc0
        obtain ⟨c, hc⟩ : ∃ c : UInt8, P[k]'(by omega) = c := ⟨_, rfl⟩
        rw [hc] at hc0
        by_cases hc10 : c = 10
        · subst hc10
          go_wp2
          go_ret
          exact ⟨rfl, B1.out⟩
        · have hcz : ((c.toNat : Int) == 10) = false := beq_no c 10 (by omega) hc10
          have hcz2 : ¬ (c.toNat : Int) = 10 := by simpa using hcz
          have hcz3 : ¬ c.toNat = 10 := by omega
          have HN2 : Hid (10 ∉ P.take (k + 1)) := by
            show 10 ∉ P.take (k + 1)
            rw [List.take_add_one, List.getElem?_eq_getElem (by omega), hc]
            simp
            exact ⟨HN.out, fun e => hc10 e.symm⟩
          clear hc
          go_wp2
          go_round
          case rel => exact ⟨k + 1, by go_num, by omega, HN2.out⟩
          case measure => simp [intOf]; omega
      · obtain rfl : k = dn := by omega
        have HN1 : Hid (10 ∉ P) := by have := HN.out; rwa [List.take_of_length_le (by omega)] at this
        clear HN
        go_wp2_with fail
        refine (zz_any F w1 B k k (some ⟨w.heap.size, 0, none⟩) P a0 a1 a2 a3 s0 (by rw [B1.out.tape]; exact hF) hdn (by omega) (by omega) (fun _ => ⟨_, _, rfl, Y1.out⟩) HS1.out).mono ?_
        rintro e w2 ⟨v, f, p, u, rfl, ho, hb2⟩
        obtain ⟨rfl, rfl, rfl, rfl⟩ := out_none HN1.out ho
        have B2 : Hid (Below w.heap.size w w2) := B1.out.trans (hb2.mono B1.out.size)
        have hG2 : w.heap.size < w2.heap.size := by
          have h1 := hb2.size
          have h2 := hG1
          omega
        have Y2 : Hid (BytesAt w2 w.heap.size 0 P) := Y1.out.below hb2
        clear ho hb2
        obtain ⟨n1, hn1⟩ : ∃ n1, n1 = k + 1 := ⟨_, rfl⟩
        have hw1 : IntKind.i64.wrap ((k : Int) + 1) = (n1 : Int) := by rw [wrap_small _ (by omega) (by omega)]; omega
        have HN1' : Hid (n1 = k + 1) := hn1
        have hkn : 0 + k ≤ n1 := by omega
        have hkn2 : k + 1 ≤ n1 := by omega
        have hn1b : n1 ≤ 40000 := by omega
        clear hn1
        go_wp2_with (at_make; refine wpList_make_own _ rfl _ _ 22 rfl w2.heap.size 5 i0 (.int .u8 0) 1 Tryf.underlying22 hinfo hz0 hz1 _ _ _ n1 rfl rfl (by omega) ?b2 ?b3 (Nat.le_refl _) ?_)
        case b2 => rw [hz2]; omega
        case b3 => unfold maxLen; omega
        intro w3 hown3 hgrow3
        have Y3 : Hid (BytesAt w3 w.heap.size 0 P) := Y2.out.below ⟨hgrow3.os, hgrow3.tape, hgrow3.output, hgrow3.size, fun j hj => hgrow3.block j hj (by simp)⟩
        go_wp2_with (first | (at_builtin; refine wpList_append_fits _ rfl (.tmp 51) (.tmp 52) 22 rfl w2.heap.size 5 i0 1 Tryf.underlying22 hinfo hz1 w2.heap.size 0 n1 _ rfl hown3 ⟨w.heap.size, 0, none⟩ k k (Lib.byteCells P) rfl (by rw [byteCells_len, hdn]; simp) (bytesAt_cells Y3.out) (byteCells_one P) hkn ?_; intro w4 hown4 hgrow4; simp only [Nat.zero_add, List.nil_append] at hown4) | (at_builtin; refine wpList_append_fits _ rfl (.tmp 54) (.tmp 55) 22 rfl w2.heap.size 5 i0 1 Tryf.underlying22 hinfo hz1 w2.heap.size k n1 _ rfl (hown4.alloc _) ⟨_, 0, none⟩ 1 1 [.int .u8 10] rfl rfl cell_one (one_u8 _) hkn2 ?_; intro w5 hown5 hgrow5))
        have Y5 : Hid (BytesAt w5 w2.heap.size 0 (P ++ [10])) := own_bytes (n := k + 1) (cap := n1) (by rw [Lib.byteCells_append]; exact hown5)
        have hs3 := hgrow3.size
        have hs4 := hgrow4.size
        have B5 : Hid (Below w.heap.size w w5) := B2.out.trans ((((Below.refl w2.heap.size w2).grown hgrow3 (Nat.le_refl _) (fun k h => by cases h)).trans ((grown_below hgrow4 hs3 (Nat.le_refl _)).trans (((Below.refl w2.heap.size w4).alloc (by omega) _).trans (grown_below hgrow5 (by simp; omega) (Nat.le_refl _))))).mono B2.out.size)
        have HS5 : Hid (Sent w5 B a0 a1 a2 a3 s0) := HS.out.kept ((Kept.refl [] w).below B5.out) (by simp)
        clear hown3 hgrow3 hown4 hgrow4 hown5 hgrow5 hs3 hs4
        refine (zz_any F w5 B (k + 1) n1 (some ⟨w2.heap.size, 0, none⟩) (P ++ [10]) a0 a1 a2 a3 s0 (by rw [B5.out.tape]; exact hF) (by rw [List.length_append, hdn]; rfl) (by omega) hkn2 (fun _ => ⟨_, _, rfl, Y5.out⟩) HS5.out).mono ?_
        rintro e w6 ⟨v2, f2, p2, u2', rfl, ho2, hb6⟩
        obtain ⟨rfl, rfl⟩ := out_line HN1.out ho2
        have B6 : Hid (Below w.heap.size w w6) := B5.out.trans (hb6.mono B5.out.size)
        clear ho2 hb6
        go_wp2
        go_ret
        exact ⟨by simp, B6.out⟩
  · have hzz : (32768 : Int) < dn := by omega
    by_cases hb2 : dn ≤ 1048576
    · go_enter Tryf.func5, Tryf.ntmps5
      go_wp2_with (go_at_call 13; refine (bound13 _ _ dn dc true (by simpa using hb2)).mono ?_; rintro e w' ⟨rfl, hw⟩; rw [hw]; clear hw)
      go_ret
      exact ⟨rfl, Below.refl _ _⟩
    · go_enter Tryf.func5, Tryf.ntmps5
      go_wp2_with (go_at_call 13; refine (bound13 _ _ dn dc false (by simpa using hb2)).mono ?_; rintro e w' ⟨rfl, hw⟩; rw [hw]; clear hw)
      go_ret
      exact ⟨rfl, Below.refl _ _⟩
end Go.Proofs.Qxb6616016aFmt
