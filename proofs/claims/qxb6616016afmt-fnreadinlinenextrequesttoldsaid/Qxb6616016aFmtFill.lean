import Derived.Test.Qxb6616016aFmtRead
namespace Go.Proofs.Qxb6616016aFmt
open Go.RowKit

/-- the state of a bufio.Reader over a backlog over a bytes.Reader: P is what lies in the buffer unread. -/
structure Rd (w : World) (rb bb kb sb N : Nat) (D : Option Addr) (dn dc i r : Nat) (P : List UInt8) (err : Value) : Prop where
  rd : ∃ lb lr, Cells w rb [.slice (some ⟨bb, 0, none⟩) N N, .iface 43 (.pointer (some ⟨kb, 0, none⟩)), .int .i64 r, .int .i64 (r + P.length : Nat), err, lb, lr] 66
  kl : Cells w kb [.iface 34 (.pointer (some ⟨sb, 0, none⟩)), .slice none 0 0, .int .i64 0] 45
  sr : ∃ pr, Cells w sb [.slice D dn dc, .int .i64 i, pr] 51
  buf : ∃ cur, Cells w bb cur 5 ∧ cur.length = N
  bytes : BytesAt w bb r P
  fits : r + P.length < N
  big : N ≤ 100000

theorem Rd.kept {w w' : World} {S : List Nat} {rb bb kb sb N : Nat} {D : Option Addr} {dn dc i r : Nat} {P : List UInt8} {err : Value} (h : Rd w rb bb kb sb N D dn dc i r P err) (hk : Kept S w w') (h1 : rb ∉ S) (h2 : bb ∉ S) (h3 : kb ∉ S) (h4 : sb ∉ S) : Rd w' rb bb kb sb N D dn dc i r P err := by
  obtain ⟨⟨lb, lr, hrd⟩, hkl, ⟨pr, hsr⟩, ⟨cur, hb, hc⟩, hby, hf, hbig⟩ := h
  exact ⟨⟨lb, lr, hk.cells hrd h1⟩, hk.cells hkl h3, ⟨pr, hk.cells hsr h4⟩, ⟨cur, hk.cells hb h2, hc⟩, hk.bytes hby h2, hf, hbig⟩

/-- the backlog's Read: all of the data. -/
theorem backlog_all (w : World) (kb sb bb db od dn dc room rc : Nat) (pr : Value) (data : List UInt8) (cur : List Value) (hk : Cells w kb [.iface 34 (.pointer (some ⟨sb, 0, none⟩)), .slice none 0 0, .int .i64 0] 45)
    (h : Cells w sb [.slice (some ⟨db, od, none⟩) dn dc, .int .i64 0, pr] 51) (hb : Cells w bb cur 5) (hd : BytesAt w db od data) (hdn : data.length = dn) (h0 : 0 < dn) (hdc : dn ≤ dc) (hr : dn ≤ room) (hc : dn ≤ cur.length) (hbig : dn ≤ 1000000) (hbd : db ≠ bb) (hds : db ≠ sb) (hdk : db ≠ kb) :
    Calls Tryf.prog 62 #[.pointer (some ⟨kb, 0, none⟩), .slice (some ⟨bb, 0, none⟩) room rc] w fun x w' => x = .returned (.tuple #[.int .i64 dn, .nilIface]) ∧
      Cells w' kb [.iface 34 (.pointer (some ⟨sb, 0, none⟩)), .slice none 0 0, .int .i64 0] 45 ∧ Cells w' sb [.slice (some ⟨db, od, none⟩) dn dc, .int .i64 dn, .int .i64 (-1)] 51 ∧ Cells w' bb (splice cur 0 (Lib.byteCells data)) 5 ∧ Kept [kb, sb, bb] w w' := by
  have n1 : bb ≠ kb := hb.ne hk (by decide)
  have n2 : sb ≠ kb := h.ne hk (by decide)
  refine backlog_read w kb sb _ _ hk fun w1 hk1 K1 => ?_
  refine (read_all w1 sb bb db od dn dc room rc pr data cur (K1.cells h (by simpa using n2)) (K1.cells hb (by simpa using n1)) (K1.bytes hd (by simpa using hdk)) hdn h0 hdc hr hc hbig hbd hds).mono ?_
  rintro x w' ⟨rfl, hs, hb', hK⟩
  exact ⟨_, _, rfl, rfl, hK.cells hk1 (by simp; exact ⟨n2.symm, n1.symm⟩), hs, hb', (K1.mono (by simp)).trans (hK.mono (by simp))⟩

/-- the backlog's Read at the end of the data. -/
theorem backlog_eof (w : World) (kb sb : Nat) (D : Option Addr) (dn dc : Nat) (pr p : Value) (a3 : Addr) (hk : Cells w kb [.iface 34 (.pointer (some ⟨sb, 0, none⟩)), .slice none 0 0, .int .i64 0] 45)
    (h : Cells w sb [.slice D dn dc, .int .i64 dn, pr] 51) (h3 : w.cell? ⟨3, 0, none⟩ = some (.iface 89 (.pointer (some a3)))) (h3k : 3 ≠ kb) :
    Calls Tryf.prog 62 #[.pointer (some ⟨kb, 0, none⟩), p] w fun x w' => x = .returned (.tuple #[.int .i64 0, .iface 89 (.pointer (some a3))]) ∧
      Cells w' kb [.iface 34 (.pointer (some ⟨sb, 0, none⟩)), .slice none 0 0, .int .i64 0] 45 ∧ Kept [kb] w w' := by
  have n2 : sb ≠ kb := h.ne hk (by decide)
  refine backlog_read w kb sb _ _ hk fun w1 hk1 K1 => ?_
  refine (read_eof w1 sb D dn dc pr p a3 (K1.cells h (by simpa using n2)) (K1.cell h3 (by simpa using h3k))).mono ?_
  rintro x w' ⟨rfl, n, rfl⟩
  exact ⟨_, _, rfl, rfl, hk1.drewN n, K1.drewN n⟩

set_option maxHeartbeats 1000000 in
set_option maxRecDepth 100000 in
/-- the first fill: all of the data. -/
theorem fill_all (w : World) (rb bb kb sb N db od dn dc : Nat) (data : List UInt8) (h : Rd w rb bb kb sb N (some ⟨db, od, none⟩) dn dc 0 0 [] .nilIface) (hd : BytesAt w db od data) (hdn : data.length = dn) (h0 : 0 < dn) (hdc : dn ≤ dc) (hN : dn < N) (hdb : db ∉ [rb, bb, kb, sb]) :
    Calls Tryf.prog 31 #[.pointer (some ⟨rb, 0, none⟩)] w fun x w' => x = .returned (.tuple #[]) ∧ Rd w' rb bb kb sb N (some ⟨db, od, none⟩) dn dc dn 0 data .nilIface ∧ Kept [rb, bb, kb, sb] w w' := by
  obtain ⟨⟨lb, lr, hrd⟩, hkl, ⟨pr, hsr⟩, ⟨cur, hb, hc⟩, hby, hf, hbig⟩ := h
  have n1 : rb ≠ bb := hrd.ne hb (by decide)
  have n2 : rb ≠ kb := hrd.ne hkl (by decide)
  have n3 : rb ≠ sb := hrd.ne hsr (by decide)
  have n4 : bb ≠ kb := hb.ne hkl (by decide)
  have n5 : bb ≠ sb := hb.ne hsr (by decide)
  have n6 : kb ≠ sb := hkl.ne hsr (by decide)
  simp at hdb
  simp only [List.length_nil, Nat.add_zero, Int.natCast_zero] at hrd hf
  have c0 := hrd.cell 0 rfl
  have c1 := hrd.cell 1 rfl
  have c2 := hrd.cell 2 rfl
  have c3 := hrd.cell 3 rfl
  have R0 : Hid (Cells w rb [.slice (some ⟨bb, 0, none⟩) N N, .iface 43 (.pointer (some ⟨kb, 0, none⟩)), .int .i64 0, .int .i64 0, .nilIface, lb, lr] 66) := hrd
  have K0 : Hid (Cells w kb [.iface 34 (.pointer (some ⟨sb, 0, none⟩)), .slice none 0 0, .int .i64 0] 45) := hkl
  have S0 : Hid (Cells w sb [.slice (some ⟨db, od, none⟩) dn dc, .int .i64 0, pr] 51) := hsr
  have B0 : Hid (Cells w bb cur 5) := hb
  have D0 : Hid (BytesAt w db od data) := hd
  clear hrd hkl hsr hb hd hby
  have mR := Tryf.read43
  go_enter Tryf.func31, Tryf.ntmps31
  go_wp2_with fail
  go_quiet (fail)
  go_wp2_with fail
  refine wp_loop_rounds 1 ?_
  rw [rounds_succ]
  go_wp2_with fail
  go_region_held3 (fun wz : World => wz.cell? ⟨rb, 0, none⟩ = some (.slice (some ⟨bb, 0, none⟩) N N) ∧ wz.cell? ⟨rb, 1, none⟩ = some (.iface 43 (.pointer (some ⟨kb, 0, none⟩))) ∧ wz.cell? ⟨rb, 3, none⟩ = some (.int .i64 0)) (first | exact ⟨c0, c1, c3⟩ | exact ⟨K2.cell c0 (by simp; omega), K2.cell c1 (by simp; omega), K2.cell c3 (by simp; omega)⟩) (first | (refine (backlog_all _ kb sb bb db od dn dc N N pr data cur (by exact K0.out) (by exact S0.out) (by exact B0.out) (by exact D0.out) hdn h0 hdc (by omega) (by omega) (by omega) hdb.2.1 hdb.2.2.2 hdb.2.2.1).mono ?_; rintro x w2 ⟨rfl, k2, s2, b2, K2⟩))
  rename_i hh
  clear hh c0 c1 c2 c3
  have R2 : Hid (Cells w2 rb [.slice (some ⟨bb, 0, none⟩) N N, .iface 43 (.pointer (some ⟨kb, 0, none⟩)), .int .i64 0, .int .i64 0, .nilIface, lb, lr] 66) := K2.cells (R0.out.drewN _) (by simp; omega)
  have c3 := R2.out.cell 3 rfl
  have f3 := R2.out.frozen 3
  have h0z : (0 : Int) < dn := by omega
  have KK : Hid (Cells w2 kb [.iface 34 (.pointer (some ⟨sb, 0, none⟩)), .slice none 0 0, .int .i64 0] 45) := k2
  have SS : Hid (Cells w2 sb [.slice (some ⟨db, od, none⟩) dn dc, .int .i64 dn, .int .i64 (-1)] 51) := s2
  have BB : Hid (Cells w2 bb (splice cur 0 (Lib.byteCells data)) 5) := b2
  clear k2 s2 b2
  go_wp2
  (try simp only [Exit.inBlock, Exit.then]); refine bodyPost_ret (results_none rfl _ _ _) rfl ?_
  have hcl : (splice cur 0 (Lib.byteCells data)).length = N := by rw [length_splice _ _ _ (by rw [byteCells_len]; omega)]; exact hc
  have BY : BytesAt w2 bb 0 data := bytesAt_splice BB.out (Nat.zero_le _)
  refine ⟨rfl, ⟨⟨lb, lr, ?_⟩, KK.out.other _ _ (by simpa using n2.symm), ⟨_, SS.out.other _ _ (by simpa using n3.symm)⟩, ⟨_, BB.out.other _ _ (by simpa using n1.symm), hcl⟩, ?_, by omega, hbig⟩, ?_⟩
  · rw [show ((0 + data.length : Nat) : Int) = (dn : Int) by omega]; exact R2.out.set 3 _
  · exact ((Kept.refl [rb] w2).setCell _ _ (by simp)).bytes BY (by simpa using n1.symm)
  · exact ((((Kept.refl _ w).drewN _).trans (K2.mono (by simp))).setCell _ _ (by simp))

set_option maxHeartbeats 2000000 in
set_option maxRecDepth 100000 in
/-- a fill at the end of the data, nothing read yet. -/
theorem fill_eof0 (w : World) (rb bb kb sb N dn dc : Nat) (D : Option Addr) (P : List UInt8) (a3 : Addr) (h : Rd w rb bb kb sb N D dn dc dn 0 P .nilIface) (h3 : w.cell? ⟨3, 0, none⟩ = some (.iface 89 (.pointer (some a3)))) (h3n : 3 ∉ [rb, bb, kb, sb]) :
    Calls Tryf.prog 31 #[.pointer (some ⟨rb, 0, none⟩)] w fun x w' => x = .returned (.tuple #[]) ∧ Rd w' rb bb kb sb N D dn dc dn 0 P (.iface 89 (.pointer (some a3))) ∧ Kept [rb, bb, kb, sb] w w' := by
  obtain ⟨⟨lb, lr, hrd⟩, hkl, ⟨pr, hsr⟩, ⟨cur, hb, hc⟩, hby, hf, hbig⟩ := h
  have n1 : rb ≠ bb := hrd.ne hb (by decide)
  have n2 : rb ≠ kb := hrd.ne hkl (by decide)
  have n3 : rb ≠ sb := hrd.ne hsr (by decide)
  have n4 : bb ≠ kb := hb.ne hkl (by decide)
  have n5 : bb ≠ sb := hb.ne hsr (by decide)
  have n6 : kb ≠ sb := hkl.ne hsr (by decide)
  simp at h3n
  have PL : Hid (0 + P.length = P.length) := Nat.zero_add _
  rw [PL.out] at hrd hf
  have n7 : (3 : Nat) ≠ kb := h3n.2.2.1
  generalize hp : P.length = p at *
  simp only [Int.natCast_zero] at hrd
  have c0 := hrd.cell 0 rfl
  have c1 := hrd.cell 1 rfl
  have c2 := hrd.cell 2 rfl
  have c3 := hrd.cell 3 rfl
  have R0 : Hid (Cells w rb [.slice (some ⟨bb, 0, none⟩) N N, .iface 43 (.pointer (some ⟨kb, 0, none⟩)), .int .i64 0, .int .i64 p, .nilIface, lb, lr] 66) := hrd
  have K0 : Hid (Cells w kb [.iface 34 (.pointer (some ⟨sb, 0, none⟩)), .slice none 0 0, .int .i64 0] 45) := hkl
  have S0 : Hid (Cells w sb [.slice D dn dc, .int .i64 dn, pr] 51) := hsr
  have B0 : Hid (Cells w bb cur 5) := hb
  have Y0 : Hid (BytesAt w bb 0 P) := hby
  have G0 : Hid (w.cell? ⟨3, 0, none⟩ = some (.iface 89 (.pointer (some a3)))) := h3
  clear hrd hkl hsr hb hby h3
  have hpN : ¬ N ≤ p := by omega
  have hpz : decide ((p : Int) ≥ (N : Int)) = false := decide_eq_false (by omega)
  have hpz2 : (p : Int) ≤ (N : Int) := by omega
  have mR := Tryf.read43
  go_enter Tryf.func31, Tryf.ntmps31
  go_wp2_with fail
  go_quiet (fail)
  go_wp2_with fail
  refine wp_loop_rounds 1 ?_
  rw [rounds_succ]
  go_wp2_with fail
  go_region_held3 (fun wz : World => wz.cell? ⟨rb, 0, none⟩ = some (.slice (some ⟨bb, 0, none⟩) N N) ∧ wz.cell? ⟨rb, 1, none⟩ = some (.iface 43 (.pointer (some ⟨kb, 0, none⟩))) ∧ wz.cell? ⟨rb, 3, none⟩ = some (.int .i64 p)) (first | exact ⟨c0, c1, c3⟩ | exact ⟨K2.cell c0 (by simpa using n2), K2.cell c1 (by simpa using n2), K2.cell c3 (by simpa using n2)⟩) (first | (refine (backlog_eof _ kb sb D dn dc pr _ a3 (by exact K0.out) (by exact S0.out) (by exact G0.out) n7).mono ?_; rintro x w2 ⟨rfl, k2, K2⟩))
  rename_i hh
  clear hh c0 c1 c2 c3
  have R2 : Hid (Cells w2 rb [.slice (some ⟨bb, 0, none⟩) N N, .iface 43 (.pointer (some ⟨kb, 0, none⟩)), .int .i64 0, .int .i64 p, .nilIface, lb, lr] 66) := K2.cells (R0.out.drewN _) (by simpa using n2)
  have c3 := R2.out.cell 3 rfl
  have f3 := R2.out.frozen 3
  have c4 := R2.out.cell 4 rfl
  have f4 := R2.out.frozen 4
  have KK : Hid (Cells w2 kb [.iface 34 (.pointer (some ⟨sb, 0, none⟩)), .slice none 0 0, .int .i64 0] 45) := k2
  have HK : Hid (Kept [rb, bb, kb, sb] w w2) := ((Kept.refl _ w).drewN _).trans (K2.mono (by simp))
  have SS : Hid (Cells w2 sb [.slice D dn dc, .int .i64 dn, pr] 51) := K2.cells (S0.out.drewN _) (by simpa using n6.symm)
  have BB : Hid (Cells w2 bb cur 5) := K2.cells (B0.out.drewN _) (by simpa using n4)
  have YY : Hid (BytesAt w2 bb 0 P) := K2.bytes (w := w.drewN _) Y0.out (by simpa using n4)
  clear k2
  go_wp2
  have hcl : cur.length = N := hc
  (try simp only [Exit.inBlock, Exit.then]); refine bodyPost_ret (results_none rfl _ _ _) rfl ?_
  refine ⟨rfl, ⟨⟨lb, lr, ?_⟩, (KK.out.other _ _ (by simpa using n2.symm)).other _ _ (by simpa using n2.symm), ⟨_, (SS.out.other _ _ (by simpa using n3.symm)).other _ _ (by simpa using n3.symm)⟩, ⟨_, (BB.out.other _ _ (by simpa using n1.symm)).other _ _ (by simpa using n1.symm), hcl⟩, ?_, by omega, hbig⟩, ?_⟩
  · rw [show 0 + P.length = p by omega]; exact (R2.out.set 3 _).set 4 _
  · exact (((Kept.refl [rb] w2).setCell _ _ (by simp)).setCell _ _ (by simp)).bytes YY.out (by simpa using n1.symm)
  · exact (HK.out.setCell _ _ (by simp)).setCell _ _ (by simp)

end Go.Proofs.Qxb6616016aFmt
