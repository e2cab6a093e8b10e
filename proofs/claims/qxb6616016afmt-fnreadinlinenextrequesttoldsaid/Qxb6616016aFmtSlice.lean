import Derived.Test.Qxb6616016aFmtFillB
import Derived.Test.Qxb6616016aFmtShelf
import Derived.Lib.IndexLaws
namespace Go.Proofs.Qxb6616016aFmt
open Go.RowKit

theorem bytesOf_nums (L : List UInt8) : Lib.bytesOf (L.map fun c => (c.toNat : Int)) = L := by
  unfold Lib.bytesOf
  rw [List.map_map]
  conv => rhs; rw [← List.map_id L]
  apply List.map_congr_left
  intro c _
  simp
theorem nums_cells {w : World} {b o n : Nat} {L : List UInt8} (h : BytesAt w b o L) (hn : L.length = n) : ∀ i, i < n → w.cell? ⟨b, o + i, none⟩ = some (.int .u8 ((L.map fun c => (c.toNat : Int)).getD i 0)) := by
  intro i hi
  have := h.at i (by omega)
  rw [this]
  simp [List.getD_eq_getElem?_getD, List.getElem?_eq_getElem (show i < L.length by omega)]

/-- bytes.IndexByte of a line feed. -/
theorem index_at (w : World) (b o n c : Nat) (L : List UInt8) (z : Int) (h : BytesAt w b o L) (hn : L.length = n) (hz : Lib.indexByte L 10 = z) :
    Calls Tryf.prog 28 #[.slice (some ⟨b, o, none⟩) n c, .int .u8 10] w fun e w' => e = .returned (.int .i64 z) ∧ w' = w := by
  refine (Tryf.bytes_IndexByte b o n c (L.map fun c => (c.toNat : Int)) 10 w (by simpa using hn) (nums_cells h hn)).mono ?_
  rintro e w' ⟨rfl, rfl⟩
  refine ⟨?_, rfl⟩
  rw [bytesOf_nums, ← hz]; rfl

theorem index_not : ∀ (L : List UInt8), 10 ∉ L → Lib.indexByte L 10 = -1
  | [], _ => rfl
  | c :: t, h => by
    simp at h
    unfold Lib.indexByte
    rw [if_neg (by simpa using fun e => h.1 e.symm), index_not t h.2]; rfl
theorem index_yes : ∀ (l rest : List UInt8), 10 ∉ l → Lib.indexByte (l ++ 10 :: rest) 10 = (l.length : Int)
  | [], _, _ => rfl
  | c :: t, rest, h => by
    simp at h
    rw [List.cons_append]
    unfold Lib.indexByte
    rw [if_neg (by simpa using fun e => h.1 e.symm), index_yes t rest h.2]
    rw [if_neg (by simp)]
    simp
theorem line_cases : ∀ (P : List UInt8), 10 ∉ P ∨ ∃ l rest, P = l ++ 10 :: rest ∧ 10 ∉ l
  | [] => .inl (by simp)
  | c :: t => by
    by_cases hc : c = 10
    · exact .inr ⟨[], t, by rw [hc]; rfl, by simp⟩
    · rcases line_cases t with h | ⟨l, rest, rfl, h⟩
      · exact .inl (by simp; exact ⟨fun e => hc e.symm, h⟩)
      · exact .inr ⟨c :: l, rest, rfl, by simp; exact ⟨fun e => hc e.symm, h⟩⟩

set_option maxHeartbeats 1000000 in
/-- (*bufio.Reader).Buffered, its numbers as letters. -/
theorem buffered_at (w : World) (rb : Nat) (r q z : Int) (x0 x1 x4 x5 x6 : Value) (h : Cells w rb [x0, x1, .int .i64 r, .int .i64 q, x4, x5, x6] 66) (hz : IntKind.i64.wrap (q - r) = z) :
    Calls Tryf.prog 30 #[.pointer (some ⟨rb, 0, none⟩)] w fun x w' => x = .returned (.int .i64 z) ∧ ∃ n, w' = w.drewN n := by
  have c2 := h.cell 2 rfl
  have c3 := h.cell 3 rfl
  clear h
  go_enter Tryf.func30, Tryf.ntmps30
  go_wp2_with fail
  go_quiet (fail)
  go_wp2
  go_ret
  exact ⟨rfl, _, rfl⟩

theorem drew_mix (w : World) (a m n : Nat) : (w.drewN (a + m)).drewN n = w.drewN (a + (m + n)) := by simp [World.drewN, Nat.add_assoc]

/-- how many rounds are to come at most. -/
def rank (w : World) (rb sb dn : Nat) : Nat :=
  (match w.cell? ⟨rb, 4, none⟩ with | some .nilIface => 1 | _ => 0) + (dn - (intOf ((w.cell? ⟨sb, 1, none⟩).getD undef)).toNat)
theorem rank_nil {w : World} {rb bb kb sb N : Nat} {D : Option Addr} {dn dc i r : Nat} {P : List UInt8} (h : Rd w rb bb kb sb N D dn dc i r P .nilIface) : rank w rb sb dn = 1 + (dn - i) := by
  obtain ⟨lb, lr, hr⟩ := h.rd
  obtain ⟨pr, hs⟩ := h.sr
  unfold rank
  rw [hr.cell 4 rfl, hs.cell 1 rfl]
  simp [intOf]
theorem rank_err {w : World} {rb bb kb sb N : Nat} {D : Option Addr} {dn dc r : Nat} {P : List UInt8} {t : TypeId} {v : Value} (h : Rd w rb bb kb sb N D dn dc dn r P (.iface t v)) : rank w rb sb dn = 0 := by
  obtain ⟨lb, lr, hr⟩ := h.rd
  obtain ⟨pr, hs⟩ := h.sr
  unfold rank
  rw [hr.cell 4 rfl, hs.cell 1 rfl]
  simp [intOf]

/-- a reader that has read nothing yet, over data P. -/
def Fresh (w : World) (rb bb kb sb N : Nat) (D : Option Addr) (dn dc : Nat) (P : List UInt8) : Prop :=
  Rd w rb bb kb sb N D dn dc 0 0 [] .nilIface ∧ P ≠ [] ∧ P.length = dn ∧ dn ≤ dc ∧ dn < N ∧ ∃ db od, D = some ⟨db, od, none⟩ ∧ BytesAt w db od P ∧ db ∉ [rb, bb, kb, sb]

/-- a line has been handed out. -/
theorem Rd.advance {w w' : World} {rb bb kb sb N : Nat} {D : Option Addr} {dn dc i r : Nat} {P : List UInt8} {err : Value} (h : Rd w rb bb kb sb N D dn dc i r P err) (l rest : List UInt8) (hP : P = l ++ 10 :: rest) (hk : Kept [rb] w w') (m q : Nat) (hm : m = r + (l.length + 1)) (hq : q = r + P.length) {e lb lr : Value}
    (hc : Cells w' rb [.slice (some ⟨bb, 0, none⟩) N N, .iface 43 (.pointer (some ⟨kb, 0, none⟩)), .int .i64 m, .int .i64 q, e, lb, lr] 66) :
    Rd w' rb bb kb sb N D dn dc i (r + (l.length + 1)) rest e ∧ BytesAt w' bb r l := by
  obtain ⟨⟨lb0, lr0, hrd⟩, hkl, ⟨pr, hsr⟩, ⟨cur, hb, hc0⟩, hby, hf, hbig⟩ := h
  subst hP
  have n1 : bb ≠ rb := hb.ne hrd (by decide)
  have n2 : kb ≠ rb := hkl.ne hrd (by decide)
  have n3 : sb ≠ rb := hsr.ne hrd (by decide)
  have hby' := hk.bytes hby (by simpa using n1)
  have hl : (l ++ 10 :: rest).length = l.length + (rest.length + 1) := by simp
  refine ⟨⟨⟨lb, lr, ?_⟩, hk.cells hkl (by simpa using n2), ⟨pr, hk.cells hsr (by simpa using n3)⟩, ⟨cur, hk.cells hb (by simpa using n1), hc0⟩, ?_, by omega, hbig⟩, ?_⟩
  · rw [← hm, show m + rest.length = q by omega]; exact hc
  · have := hby'.drop (l.length + 1)
    rwa [show (l ++ 10 :: rest).drop (l.length + 1) = rest by rw [List.drop_append]; simp] at this
  · have := hby'.take l.length
    rwa [show (l ++ 10 :: rest).take l.length = l by simp] at this

/-- what ReadSlice('\n') hands back where P is to come. -/
def SliceRes (rb bb kb sb N : Nat) (D : Option Addr) (dn dc r : Nat) (P : List UInt8) (a3 : Addr) (x : Ending) (w' : World) : Prop :=
  (∃ l rest, P = l ++ 10 :: rest ∧ 10 ∉ l ∧ x = .returned (.tuple #[.slice (some ⟨bb, r, none⟩) (l.length + 1) (N - r), .nilIface]) ∧ BytesAt w' bb r l ∧ Rd w' rb bb kb sb N D dn dc dn (r + (l.length + 1)) rest .nilIface) ∨
  (10 ∉ P ∧ ∃ v, x = .returned (.tuple #[v, .iface 89 (.pointer (some a3))]))

theorem found_end {w wr : World} {rb bb kb sb N : Nat} {D : Option Addr} {dn dc r : Nat} {P : List UInt8} {a3 : Addr} (hR : Rd wr rb bb kb sb N D dn dc dn r P .nilIface) (l rest : List UInt8) (hP : P = l ++ 10 :: rest) (hnl : 10 ∉ l) (hK : Kept [rb, bb, kb, sb] w wr) {k : Nat} (hk : l.length = k) (m q : Nat) (hm : m = r + (k + 1)) (hq : q = r + P.length) {lb lr : Value}
    (hc : Cells wr rb [.slice (some ⟨bb, 0, none⟩) N N, .iface 43 (.pointer (some ⟨kb, 0, none⟩)), .int .i64 r, .int .i64 q, .nilIface, lb, lr] 66) (nn : Nat) :
    SliceRes rb bb kb sb N D dn dc r P a3 (.returned (.tuple #[.slice (some ⟨bb, r, none⟩) (k + 1) (N - r), .nilIface])) ((((wr.drewN nn).setCell ⟨rb, 2, none⟩ (.int .i64 m)).setCell ⟨rb, 5, none⟩ (.int .i64 10)).setCell ⟨rb, 6, none⟩ (.int .i64 (-1))) ∧
      Kept [rb, bb, kb, sb] w ((((wr.drewN nn).setCell ⟨rb, 2, none⟩ (.int .i64 m)).setCell ⟨rb, 5, none⟩ (.int .i64 10)).setCell ⟨rb, 6, none⟩ (.int .i64 (-1))) := by
  have HW : Kept [rb] wr ((((wr.drewN nn).setCell ⟨rb, 2, none⟩ (.int .i64 m)).setCell ⟨rb, 5, none⟩ (.int .i64 10)).setCell ⟨rb, 6, none⟩ (.int .i64 (-1))) := ((((Kept.refl _ wr).drewN _).setCell _ _ (by simp)).setCell _ _ (by simp)).setCell _ _ (by simp)
  subst hk
  obtain ⟨hRR, hBB⟩ := hR.advance l rest hP HW m q hm hq ((((hc.drewN nn).set 2 _).set 5 _).set 6 _)
  exact ⟨.inl ⟨l, rest, hP, hnl, rfl, hBB, hRR⟩, hK.trans (HW.mono (by simp))⟩

set_option maxHeartbeats 4000000 in
set_option maxRecDepth 100000 in
theorem readSlice_any (w : World) (rb bb kb sb N dn dc r : Nat) (D : Option Addr) (P : List UInt8) (a3 : Addr) (h : Rd w rb bb kb sb N D dn dc dn r P .nilIface ∨ (r = 0 ∧ Fresh w rb bb kb sb N D dn dc P)) (h3 : w.cell? ⟨3, 0, none⟩ = some (.iface 89 (.pointer (some a3)))) (h3n : 3 ∉ [rb, bb, kb, sb]) :
    Calls Tryf.prog 20 #[.pointer (some ⟨rb, 0, none⟩), .int .u8 10] w fun x w' => SliceRes rb bb kb sb N D dn dc r P a3 x w' ∧ Kept [rb, bb, kb, sb] w w' := by
  have H3 : Hid (w.cell? ⟨3, 0, none⟩ = some (.iface 89 (.pointer (some a3)))) := h3
  clear h3
  go_enter Tryf.func20, Tryf.ntmps20
  go_wp2_with fail
  go_loopw [5, 6] (fun e s wr => e = .nilIface ∧ Kept [rb, bb, kb, sb] w wr ∧ ((s = .int .i64 0 ∧ r = 0 ∧ Fresh wr rb bb kb sb N D dn dc P) ∨ (s = .int .i64 0 ∧ Rd wr rb bb kb sb N D dn dc dn r P .nilIface) ∨ (s = .int .i64 P.length ∧ 10 ∉ P ∧ Rd wr rb bb kb sb N D dn dc dn 0 P (.iface 89 (.pointer (some a3))))))
    (fun _ _ wr => rank wr rb sb dn)
  case atStart =>
    refine ⟨rfl, Kept.refl _ _, ?_⟩
    rcases h with h | ⟨h0, h⟩
    · exact .inr (.inl ⟨rfl, h⟩)
    · exact .inl ⟨rfl, h0, h⟩
  case round =>
    obtain ⟨rfl, hK, hrel⟩ := hrel
    have HK : Hid (Kept [rb, bb, kb, sb] w wr) := hK
    clear hK
    rcases hrel with ⟨rfl, rfl, hF⟩ | ⟨rfl, hR⟩ | ⟨rfl, hnot, hR⟩
    · obtain ⟨hR, hne, hlen, hdc, hdN, db, od, rfl, hB, hdb⟩ := hF
      have HR : Hid (Rd wr rb bb kb sb N (some ⟨db, od, none⟩) dn dc 0 0 [] .nilIface) := hR
      have HB : Hid (BytesAt wr db od P) := hB
      clear hB
      obtain ⟨lb, lr, hrd⟩ := hR.rd
      have hbig := hR.big
      clear hR
      simp only [List.length_nil, Nat.add_zero, Int.natCast_zero] at hrd
      have c0 := hrd.cell 0 rfl
      have c2 := hrd.cell 2 rfl
      have c3 := hrd.cell 3 rfl
      have c4 := hrd.cell 4 rfl
      have HC : Hid (Cells wr rb [.slice (some ⟨bb, 0, none⟩) N N, .iface 43 (.pointer (some ⟨kb, 0, none⟩)), .int .i64 0, .int .i64 0, .nilIface, lb, lr] 66) := hrd
      clear hrd
      have hN0 : ¬ N ≤ 0 := by omega
      have E0 : Hid (∀ wz : World, BytesAt wz bb 0 []) := fun wz j x hx => by simp at hx
      go_wp2_with fail
      go_quiet (first | (go_at_call 28; refine (index_at _ bb 0 0 N [] (-1) (E0.out _) rfl rfl).mono ?_; rintro e w'' ⟨rfl, rfl⟩; exact ⟨rfl, _, rfl⟩))
      go_wp2_with fail
      go_quiet (first | (go_at_call 30; refine (buffered_at _ rb 0 0 0 _ _ _ _ _ (by exact HC.out) (by rfl)).mono ?_; rintro e w'' ⟨rfl, n, rfl⟩; first | exact ⟨rfl, _, drew_two _ _ _⟩ | exact ⟨rfl, _, drew_mix _ _ _ _⟩))
      go_wp2_with fail
      go_quiet (fail)
      go_wp2_with fail
      refine (fill_all _ rb bb kb sb N db od dn dc P (by exact HR.out.kept ((Kept.refl [] wr).drewN _) (by simp) (by simp) (by simp) (by simp)) (by exact HB.out) hlen (by have := List.length_pos_iff.2 hne; omega) hdc hdN hdb).mono ?_
      rintro x w2 ⟨rfl, hR2, hK2⟩
      have HR2 : Hid (Rd w2 rb bb kb sb N (some ⟨db, od, none⟩) dn dc dn 0 P .nilIface) := hR2
      have HK2 : Hid (Kept [rb, bb, kb, sb] w w2) := (HK.out.drewN _).trans hK2
      clear hR2 hK2
      go_wp2_with fail
      go_roundw
      case rel => exact ⟨rfl, HK2.out, .inr (.inl ⟨rfl, HR2.out⟩)⟩
      case measure => rw [rank_nil HR2.out, rank_nil HR.out]; have := List.length_pos_iff.2 hne; omega
    · have HR : Hid (Rd wr rb bb kb sb N D dn dc dn r P .nilIface) := hR
      obtain ⟨lb, lr, hrd⟩ := hR.rd
      have hbig := hR.big
      have hfits := hR.fits
      have HY : Hid (BytesAt wr bb r P) := hR.bytes
      clear hR
      generalize hp : P.length = p at *
      generalize hq : r + p = q at *
      have c0 := hrd.cell 0 rfl
      have c2 := hrd.cell 2 rfl
      have c3 := hrd.cell 3 rfl
      have c4 := hrd.cell 4 rfl
      have HC : Hid (Cells wr rb [.slice (some ⟨bb, 0, none⟩) N N, .iface 43 (.pointer (some ⟨kb, 0, none⟩)), .int .i64 r, .int .i64 q, .nilIface, lb, lr] 66) := hrd
      clear hrd
      have hz : IntKind.i64.wrap ((q : Int) - r) = p := by rw [wrap_small _ (by omega) (by omega)]; omega
      have hs1 : (r : Int) ≤ (q : Int) := by omega
      have hs2 : (q : Int) ≤ (N : Int) := by omega
      have hNr : ¬ N = r := by omega
      have hqr : q - r = p := by omega
      rcases line_cases P with hnot | ⟨l, rest, hP, hnl⟩
      · have HN : Hid (10 ∉ P) := hnot
        clear hnot
        have hpN : decide ((p : Int) ≥ (N : Int)) = false := decide_eq_false (by omega)
        have hpN2 : ¬ N ≤ p := by omega
        go_wp2_with fail
        go_quiet (first | (go_at_call 28; refine (index_at _ bb r _ _ P (-1) (by exact HY.out) (by omega) (index_not P HN.out)).mono ?_; rintro e w'' ⟨rfl, rfl⟩; exact ⟨rfl, _, rfl⟩))
        go_wp2_with fail
        go_quiet (first | (go_at_call 30; refine (buffered_at _ rb r q p _ _ _ _ _ (by exact HC.out) hz).mono ?_; rintro e w'' ⟨rfl, n, rfl⟩; first | exact ⟨rfl, _, drew_two _ _ _⟩ | exact ⟨rfl, _, drew_mix _ _ _ _⟩))
        go_wp2_with fail
        go_quiet (fail)
        go_wp2_with fail
        refine (fill_eof _ rb bb kb sb N dn dc r D P a3 (by exact HR.out.kept ((Kept.refl [] wr).drewN _) (by simp) (by simp) (by simp) (by simp)) (by exact HK.out.cell H3.out h3n) h3n).mono ?_
        rintro x w2 ⟨rfl, hR2, hK2⟩
        have HR2 : Hid (Rd w2 rb bb kb sb N D dn dc dn 0 P (.iface 89 (.pointer (some a3)))) := hR2
        have HK2 : Hid (Kept [rb, bb, kb, sb] w w2) := (HK.out.drewN _).trans hK2
        clear hR2 hK2
        go_wp2_with fail
        go_roundw
        case rel => exact ⟨rfl, HK2.out, .inr (.inr ⟨rfl, HN.out, HR2.out⟩)⟩
        case measure => rw [rank_err HR2.out, rank_nil HR.out]; omega
      · generalize hk : l.length = k at *
        have hpk : k + (rest.length + 1) = p := by rw [← hp, hP, ← hk]; simp
        obtain ⟨m, hm⟩ : ∃ m, m = r + k + 1 := ⟨_, rfl⟩
        have hw1 : IntKind.i64.wrap ((r : Int) + k) = (r : Int) + k := wrap_small _ (by omega) (by omega)
        have hw2 : IntKind.i64.wrap ((r : Int) + k + 1) = (m : Int) := by rw [wrap_small _ (by omega) (by omega)]; omega
        have hw3 : IntKind.i64.wrap ((k : Int) + 1) = (k : Int) + 1 := wrap_small _ (by omega) (by omega)
        have hw4 : IntKind.i64.wrap ((r : Int) + ((k : Int) + 1)) = (m : Int) := by rw [wrap_small _ (by omega) (by omega)]; omega
        have hm1 : (r : Int) ≤ (m : Int) := by omega
        have hm2 : (m : Int) ≤ (N : Int) := by omega
        have hmr : m - r = k + 1 := by omega
        have f2 := HC.out.frozen 2
        have HM : Hid (m = r + k + 1) := hm
        clear hm
        have nb : bb ≠ rb := by
          obtain ⟨cur, hcur, _⟩ := HR.out.buf
          exact hcur.ne HC.out (by decide)
        have nb2 : rb ≠ bb := nb.symm
        have cK : wr.cell? ⟨bb, r + k, none⟩ = some (.int .u8 10) := HY.out k 10 (by rw [hP, ← hk]; simp)
        have c5 := HC.out.cell 5 rfl
        have c6 := HC.out.cell 6 rfl
        have f5 := HC.out.frozen 5
        have f6 := HC.out.frozen 6
        go_wp2_with fail
        go_quiet (first | (go_at_call 28; refine (index_at _ bb r _ _ P k (by exact HY.out) (by omega) (by rw [hP, ← hk]; exact index_yes l rest hnl)).mono ?_; rintro e w'' ⟨rfl, rfl⟩; exact ⟨rfl, _, rfl⟩))
        go_wp2_with fail
        go_quiet (fail)
        go_wp2
        go_ret2
        exact found_end HR.out l rest hP hnl HK.out hk m q (by rw [HM.out]; rfl) (by rw [← hq, ← hp]) HC.out _
    · have HR : Hid (Rd wr rb bb kb sb N D dn dc dn 0 P (.iface 89 (.pointer (some a3)))) := hR
      obtain ⟨lb, lr, hrd⟩ := hR.rd
      have hbig := hR.big
      have hfits := hR.fits
      have HY : Hid (BytesAt wr bb 0 P) := hR.bytes
      have HN : Hid (10 ∉ P) := hnot
      clear hR hnot
      have nb : bb ≠ rb := by
        obtain ⟨cur, hcur, _⟩ := HR.out.buf
        exact hcur.ne hrd (by decide)
      have nb2 : rb ≠ bb := nb.symm
      rw [Nat.zero_add] at hrd hfits
      generalize hp : P.length = p at *
      simp only [Int.natCast_zero] at hrd
      have c0 := hrd.cell 0 rfl
      have c2 := hrd.cell 2 rfl
      have c3 := hrd.cell 3 rfl
      have c4 := hrd.cell 4 rfl
      have f2 := hrd.frozen 2
      have HC : Hid (Cells wr rb [.slice (some ⟨bb, 0, none⟩) N N, .iface 43 (.pointer (some ⟨kb, 0, none⟩)), .int .i64 0, .int .i64 p, .iface 89 (.pointer (some a3)), lb, lr] 66) := hrd
      clear hrd
      have hs1 : (p : Int) ≤ (p : Int) := by omega
      have hs2 : (p : Int) ≤ (N : Int) := by omega
      have hNp : ¬ N = p := by omega
      have E0 : Hid (∀ (wz : World) (o : Nat), BytesAt wz bb o []) := fun wz o j x hx => by simp at hx
      go_wp2_with fail
      go_quiet (first | (go_at_call 28; refine (index_at _ bb p _ _ [] (-1) (E0.out _ _) (by simp) rfl).mono ?_; rintro e w'' ⟨rfl, rfl⟩; exact ⟨rfl, _, rfl⟩))
      go_wp2_with fail
      go_quiet (fail)
      go_wp2_with fail
      have HR1 : Hid (∀ nn, Cells ((wr.drewN nn).setCell ⟨rb, 2, none⟩ (.int .i64 p)) rb [.slice (some ⟨bb, 0, none⟩) N N, .iface 43 (.pointer (some ⟨kb, 0, none⟩)), .int .i64 p, .int .i64 p, .iface 89 (.pointer (some a3)), lb, lr] 66) := fun nn => (HC.out.drewN nn).set 2 _
      have HK1 : Hid (∀ nn, Kept [rb] wr ((wr.drewN nn).setCell ⟨rb, 2, none⟩ (.int .i64 p))) := fun nn => ((Kept.refl _ wr).drewN _).setCell _ _ (by simp)
      refine (readErr_any _ rb _ _ _ _ _ _ _ (by exact HR1.out _)).mono ?_
      rintro x w2 ⟨rfl, hC2, hK2⟩
      have HC2 : Hid (Cells w2 rb [.slice (some ⟨bb, 0, none⟩) N N, .iface 43 (.pointer (some ⟨kb, 0, none⟩)), .int .i64 p, .int .i64 p, .nilIface, lb, lr] 66) := hC2
      have HK2 : Hid (Kept [rb] wr w2) := (HK1.out _).trans hK2
      clear hC2 hK2
      by_cases hp0 : p = 0
      · subst hp0
        go_wp2
        go_ret2
        exact ⟨.inr ⟨HN.out, _, rfl⟩, HK.out.trans (HK2.out.mono (by simp))⟩
      · obtain ⟨j, hj⟩ : ∃ j, j = p - 1 := ⟨_, rfl⟩
        have hw1 : IntKind.i64.wrap ((p : Int) - 1) = (j : Int) := by rw [wrap_small _ (by omega) (by omega)]; omega
        obtain ⟨c, hcj⟩ : ∃ c, P[j]? = some c := ⟨_, List.getElem?_eq_getElem (by omega)⟩
        have cK : w2.cell? ⟨bb, j, none⟩ = some (.int .u8 c.toNat) := HK2.out.cell (by have := HY.out j c hcj; rwa [Nat.zero_add] at this) (by simpa using nb)
        have c5 := HC2.out.cell 5 rfl
        have c6 := HC2.out.cell 6 rfl
        have f5 := HC2.out.frozen 5
        have f6 := HC2.out.frozen 6
        have hjp : (j : Int) < (p : Int) := by omega
        clear hcj hj
        go_wp2
        go_ret2
        exact ⟨.inr ⟨HN.out, _, rfl⟩, HK.out.trans (((HK2.out.setCell _ _ (by simp)).setCell _ _ (by simp)).mono (by simp))⟩
end Go.Proofs.Qxb6616016aFmt
