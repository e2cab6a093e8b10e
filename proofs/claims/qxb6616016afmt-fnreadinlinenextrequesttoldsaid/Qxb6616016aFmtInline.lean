import Derived.Test.Qxb6616016aFmtSlice
import Derived.Test.Qxb6616016aFmtErr
import Derived.Test.Qxb6616016aFmtNew
namespace Go.Proofs.Qxb6616016aFmt
open Go.RowKit Go.Extern.Stop Go.Stop Go.Extern

/-- a line without its carriage return. -/
def Plain.trim (l : List UInt8) : List UInt8 := Lib.trimSuffix l [13]
theorem trim_take (l : List UInt8) : ∃ k, Plain.trim l = l.take k := by
  unfold Plain.trim Lib.trimSuffix
  split
  · exact ⟨_, rfl⟩
  · exact ⟨l.length, by simp⟩
theorem trim_le (l : List UInt8) : (Plain.trim l).length ≤ l.length := by
  obtain ⟨k, hk⟩ := trim_take l
  rw [hk, List.length_take]; omega
theorem BytesAt.trim {w : World} {b o : Nat} {l : List UInt8} (h : BytesAt w b o l) : BytesAt w b o (Plain.trim l) := by
  obtain ⟨k, hk⟩ := trim_take l
  rw [hk]; exact h.take k

/-- bytes.TrimSuffix(line, "\r"). -/
theorem trim_at (w : World) (b o n c b2 m : Nat) (l : List UInt8) (hl : BytesAt w b o l) (hn : l.length = n) (hnc : n ≤ c) (hbig : n ≤ 1000000) (h13 : w.cell? ⟨b2, 0, none⟩ = some (.int .u8 13)) (hm : (Plain.trim l).length = m) :
    Calls Tryf.prog 23 #[.slice (some ⟨b, o, none⟩) n c, .slice (some ⟨b2, 0, none⟩) 1 1] w fun e w' => e = .returned (.slice (some ⟨b, o, none⟩) m c) ∧ w' = w := by
  refine (Tryf.bytes_TrimSuffix b o n c b2 0 1 1 (l.map fun c => (c.toNat : Int)) [13] w (by simpa using hn) rfl hnc (by omega) (nums_cells hl hn) (fun i hi => ?_)).mono ?_
  · obtain rfl : i = 0 := by omega
    exact h13
  · rintro e w' ⟨rfl, rfl⟩
    refine ⟨?_, rfl⟩
    subst hm hn
    unfold Lib.bytesTrimSuffix Plain.trim Lib.trimSuffix Lib.sliceTo
    rw [bytesOf_nums, show Lib.bytesOf [13] = [13] from rfl]
    split
    · simp
    · rfl

/-- splitInline, its number as a letter. -/
theorem split_at (la : Option Addr) (n lcap : Nat) (L : List UInt8) (w : World) (hn : L.length = n) (hL : L ≠ [] → ∃ lb lo, la = some ⟨lb, lo, none⟩ ∧ BytesAt w lb lo L) (hlc : n ≤ lcap) (hbig : n ≤ 1000000) :
    Calls Tryf.prog 24 #[.slice la n lcap] w fun e w' => SplitRes w.heap.size (Plain.split L) e w' ∧ Below w.heap.size w w' := by
  subst hn
  exact split_any la lcap L w hL hlc hbig

/-- the package-level errors, below B. -/
structure Sent (w : World) (B : Nat) (a0 a1 a2 a3 : Addr) (s0 : ByteArray) : Prop where
  g0 : w.cell? ⟨0, 0, none⟩ = some (.iface 89 (.pointer (some a0)))
  g1 : w.cell? ⟨1, 0, none⟩ = some (.iface 89 (.pointer (some a1)))
  g2 : w.cell? ⟨2, 0, none⟩ = some (.iface 89 (.pointer (some a2)))
  g3 : w.cell? ⟨3, 0, none⟩ = some (.iface 89 (.pointer (some a3)))
  t0 : w.cell? a0 = some (.string s0)
  r0 : ∃ c t, w.heap[a0.block]? = some (.cells c t (0, 0))
  r1 : ∃ c t, w.heap[a1.block]? = some (.cells c t (0, 0))
  r2 : ∃ c t, w.heap[a2.block]? = some (.cells c t (0, 0))
  r3 : ∃ c t, w.heap[a3.block]? = some (.cells c t (0, 0))
  n10 : a1 ≠ a0
  n32 : a3 ≠ a2
  lo : 3 < B
  l0 : a0.block < B
  l1 : a1.block < B
  l2 : a2.block < B
  l3 : a3.block < B
  hB : B ≤ w.heap.size

theorem Sent.kept {w w' : World} {B : Nat} {a0 a1 a2 a3 : Addr} {s0 : ByteArray} {S : List Nat} (h : Sent w B a0 a1 a2 a3 s0) (hK : Kept S w w') (hS : ∀ k ∈ S, B ≤ k) : Sent w' B a0 a1 a2 a3 s0 := by
  have hn : ∀ k, k < B → k ∉ S := fun k hk hm => absurd (hS k hm) (by omega)
  have lo := h.lo
  have hb : ∀ k, k < B → w'.heap[k]? = w.heap[k]? := fun k hk => hK.block k (by have := h.hB; omega) (hn k hk)
  exact ⟨hK.cell h.g0 (hn _ (by show 0 < B; omega)), hK.cell h.g1 (hn _ (by show 1 < B; omega)), hK.cell h.g2 (hn _ (by show 2 < B; omega)), hK.cell h.g3 (hn _ (by show 3 < B; omega)), hK.cell h.t0 (hn _ h.l0),
    by rw [hb _ h.l0]; exact h.r0, by rw [hb _ h.l1]; exact h.r1, by rw [hb _ h.l2]; exact h.r2, by rw [hb _ h.l3]; exact h.r3, h.n10, h.n32, h.lo, h.l0, h.l1, h.l2, h.l3, Nat.le_trans h.hB hK.size⟩

/-- what readInline hands back where P is to come. -/
def InlineRes (base rb bb kb sb N : Nat) (D : Option Addr) (dn dc r : Nat) (P : List UInt8) (a0 a1 : Addr) (x : Ending) (w' : World) : Prop :=
  (∃ l rest, P = l ++ 10 :: rest ∧ 10 ∉ l ∧ Rd w' rb bb kb sb N D dn dc dn (r + (l.length + 1)) rest .nilIface ∧
    ((Plain.split (Plain.trim l) = none ∧ ∃ pb, x = .returned (.tuple #[.slice none 0 0, .iface 73 (.pointer (some ⟨pb, 0, none⟩))]) ∧ w'.cell? ⟨pb, 1, none⟩ = some (.iface 89 (.pointer (some a0)))) ∨
     ∃ ws a c, Plain.split (Plain.trim l) = some ws ∧ x = .returned (.tuple #[.slice a ws.length c, .nilIface]) ∧ WordsF base w' (.slice a ws.length c) ws)) ∨
  (10 ∉ P ∧ x = .returned (.tuple #[.slice none 0 0, .iface 89 (.pointer (some a1))]))

set_option maxHeartbeats 2000000 in
set_option maxRecDepth 100000 in
/-- readInline. -/
theorem readInline_any (F : Interp) (w : World) (B qb rb bb kb sb N dn dc r : Nat) (D : Option Addr) (P : List UInt8) (a0 a1 a2 a3 : Addr) (s0 : ByteArray) (hF : F.answers w.tape) (hq : w.cell? ⟨qb, 0, none⟩ = some (.pointer (some ⟨rb, 0, none⟩)))
    (h : Rd w rb bb kb sb N D dn dc dn r P .nilIface ∨ (r = 0 ∧ Fresh w rb bb kb sb N D dn dc P)) (hs : Sent w B a0 a1 a2 a3 s0) (hB : ∀ k ∈ [rb, bb, kb, sb], B ≤ k) :
    Calls Tryf.prog 17 #[.pointer (some ⟨qb, 0, none⟩)] w fun x w' => InlineRes w.heap.size rb bb kb sb N D dn dc r P a0 a1 x w' ∧ Kept [rb, bb, kb, sb] w w' := by
  have h3n : 3 ∉ [rb, bb, kb, sb] := fun hm => absurd (hB 3 hm) (by have := hs.lo; omega)
  have HS : Hid (Sent w B a0 a1 a2 a3 s0) := hs
  clear hs
  go_enter Tryf.func17, Tryf.ntmps17
  go_wp2_with fail
  refine (readSlice_any w rb bb kb sb N dn dc r D P a3 h HS.out.g3 h3n).mono ?_
  rintro x w1 ⟨hres, hK1⟩
  have HK1 : Hid (Kept [rb, bb, kb, sb] w w1) := hK1
  have HS1 : Hid (Sent w1 B a0 a1 a2 a3 s0) := HS.out.kept hK1 hB
  clear hK1
  have g0 := HS1.out.g0
  have g1 := HS1.out.g1
  have g2 := HS1.out.g2
  have g3 := HS1.out.g3
  rcases hres with ⟨l, rest, hP, hnl, rfl, hBy, hR⟩ | ⟨hnot, v, rfl⟩
  · have HR : Hid (Rd w1 rb bb kb sb N D dn dc dn (r + (l.length + 1)) rest .nilIface) := hR
    have HL : Hid (BytesAt w1 bb r l) := hBy
    have hbig := hR.big
    have hfit := hR.fits
    clear hR hBy
    generalize hk : l.length = k at *
    generalize hc : N - r = c at *
    have hkc : (k : Int) ≤ (c : Int) := by omega
    go_wp2_with fail
    refine (is_nil a2 _).mono ?_
    rintro e w' ⟨rfl, hw⟩
    rw [hw]
    clear hw
    go_wp2_with fail
    clear g0 g1 g2 g3
    generalize hw2 : w1.alloc (.cells #[.int .u8 13] 5) = w2
    have B2 : Hid (Below w1.heap.size w1 w2) := by subst hw2; exact (Below.refl _ w1).alloc (Nat.le_refl _) _
    have C2 : Hid (w2.cell? ⟨w1.heap.size, 0, none⟩ = some (.int .u8 13)) := by subst hw2; show _ = _; simp
    have L2 : Hid (BytesAt w2 bb r l) := HL.out.below B2.out
    clear hw2
    obtain ⟨m, hm⟩ : ∃ m, (Plain.trim l).length = m := ⟨_, rfl⟩
    have hmk : m ≤ k := by rw [← hm, ← hk]; exact trim_le l
    refine (trim_at w2 bb r k c w1.heap.size m l L2.out hk (by omega) (by omega) C2.out hm).mono ?_
    rintro e w' ⟨rfl, hw⟩
    rw [hw]
    clear hw
    go_wp2_with fail
    refine (split_at (some ⟨bb, r, none⟩) m c (Plain.trim l) w2 hm (fun _ => ⟨bb, r, rfl, L2.out.trim⟩) (by omega) (by omega)).mono ?_
    rintro e w3 ⟨hsp, hb3⟩
    have B3 : Hid (Below w1.heap.size w1 w3) := B2.out.trans (hb3.mono B2.out.size)
    clear hb3
    have HS3 : Hid (Sent w3 B a0 a1 a2 a3 s0) := HS1.out.kept ((Kept.refl [] w1).below B3.out) (by simp)
    cases hsplit : Plain.split (Plain.trim l) with
    | none =>
      rw [hsplit] at hsp
      have he : e = .returned (.tuple #[.slice none 0 0, .bool false]) := hsp
      subst he
      have HSP : Hid (Plain.split (Plain.trim l) = none) := hsplit
      clear hsp hsplit
      have g0 := HS3.out.g0
      go_wp2_with fail
      have A4 : Hid (∀ o, Below w3.heap.size w3 (w3.alloc o)) := fun o => (Below.refl _ w3).alloc (Nat.le_refl _) o
      have hB3 := HS3.out.hB
      have hl0 := HS3.out.l0
      refine (errorf_any F w3.heap.size a0 s0 _ (by rw [show (w3.alloc _).tape = w3.tape from rfl, B3.out.tape, HK1.out.tape]; exact hF) (by simp) (by rw [(A4.out _).cell (by omega)]; exact HS3.out.t0)).mono ?_
      rintro e w5 ⟨rfl, hc5, hb5⟩
      have B5 : Hid (Below w1.heap.size w1 w5) := B3.out.trans (((A4.out _).mono B3.out.size).trans (hb5.mono (by simp; have := B3.out.size; omega)))
      have C5 : Hid (w5.cell? ⟨_, 1, none⟩ = _) := hc5
      clear hb5 hc5
      go_wp2
      go_ret2
      refine ⟨.inl ⟨l, rest, hP, hnl, ?_, .inl ⟨HSP.out, _, rfl, by have h5 := C5.out; simpa using h5⟩⟩, HK1.out.below B5.out⟩
      rw [hk]; exact HR.out.kept ((Kept.refl [] w1).below B5.out) (by simp) (by simp) (by simp) (by simp)
    | some ws =>
      rw [hsplit] at hsp
      obtain ⟨v, he, hwv⟩ := hsp
      obtain ⟨wa, wc, hv, hrest⟩ := id hwv
      subst hv
      subst he
      have HW : Hid (WordsF w.heap.size w3 (.slice wa ws.length wc) ws) := WordsF.stay hwv (Nat.le_trans HK1.out.size B2.out.size) (fun _ _ _ => rfl)
      have HSP : Hid (Plain.split (Plain.trim l) = some ws) := hsplit
      clear hwv hrest hsplit
      go_wp2
      go_ret2
      refine ⟨.inl ⟨l, rest, hP, hnl, ?_, .inr ⟨ws, wa, wc, HSP.out, rfl, HW.out⟩⟩, HK1.out.below B3.out⟩
      rw [hk]; exact HR.out.kept ((Kept.refl [] w1).below B3.out) (by simp) (by simp) (by simp) (by simp)
  · obtain ⟨c2, t2, r2⟩ := HS1.out.r2
    obtain ⟨c3, t3, r3⟩ := HS1.out.r3
    go_wp2_with fail
    refine (is_other a3 a2 c3 c2 t3 t2 _ HS1.out.n32 r3 r2).mono ?_
    rintro e w' ⟨rfl, hw⟩
    rw [hw]
    clear hw r2 r3
    go_wp2_with fail
    refine (unexpected_any a1 a3 _ g3 g1).mono ?_
    rintro e w' ⟨rfl, hw⟩
    rw [hw]
    clear hw
    go_wp2
    go_ret2
    exact ⟨.inr ⟨hnot, rfl⟩, HK1.out⟩
end Go.Proofs.Qxb6616016aFmt
