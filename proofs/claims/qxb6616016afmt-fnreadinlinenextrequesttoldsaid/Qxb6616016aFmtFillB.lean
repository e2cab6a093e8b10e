import Derived.Test.Qxb6616016aFmtFill
namespace Go.Proofs.Qxb6616016aFmt
open Go.RowKit

set_option maxHeartbeats 2000000 in
set_option maxRecDepth 100000 in
/-- a fill at the end of the data, what was read is slid away. -/
theorem fill_eof1 (w : World) (rb bb kb sb N dn dc r : Nat) (D : Option Addr) (P : List UInt8) (a3 : Addr) (h : Rd w rb bb kb sb N D dn dc dn r P .nilIface) (hr : 0 < r) (h3 : w.cell? ⟨3, 0, none⟩ = some (.iface 89 (.pointer (some a3)))) (h3n : 3 ∉ [rb, bb, kb, sb]) :
    Calls Tryf.prog 31 #[.pointer (some ⟨rb, 0, none⟩)] w fun x w' => x = .returned (.tuple #[]) ∧ Rd w' rb bb kb sb N D dn dc dn 0 P (.iface 89 (.pointer (some a3))) ∧ Kept [rb, bb, kb, sb] w w' := by
  obtain ⟨⟨lb, lr, hrd⟩, hkl, ⟨pr, hsr⟩, ⟨cur, hb, hc⟩, hby, hf, hbig⟩ := h
  have n1 : rb ≠ bb := hrd.ne hb (by decide)
  have n2 : rb ≠ kb := hrd.ne hkl (by decide)
  have n3 : rb ≠ sb := hrd.ne hsr (by decide)
  have n4 : bb ≠ kb := hb.ne hkl (by decide)
  have n5 : bb ≠ sb := hb.ne hsr (by decide)
  have n6 : kb ≠ sb := hkl.ne hsr (by decide)
  simp at h3n
  have PL : Hid (0 + P.length = P.length) := Nat.zero_add _
  have n7 : (3 : Nat) ≠ kb := h3n.2.2.1
  generalize hp : P.length = p at *
  generalize hq : r + p = q at *
  have c0 := hrd.cell 0 rfl
  have c2 := hrd.cell 2 rfl
  have c3 := hrd.cell 3 rfl
  have R0 : Hid (Cells w rb [.slice (some ⟨bb, 0, none⟩) N N, .iface 43 (.pointer (some ⟨kb, 0, none⟩)), .int .i64 r, .int .i64 q, .nilIface, lb, lr] 66) := hrd
  have K0 : Hid (Cells w kb [.iface 34 (.pointer (some ⟨sb, 0, none⟩)), .slice none 0 0, .int .i64 0] 45) := hkl
  have S0 : Hid (Cells w sb [.slice D dn dc, .int .i64 dn, pr] 51) := hsr
  have B0 : Hid (Cells w bb cur 5) := hb
  have Y0 : Hid (BytesAt w bb r P) := hby
  have G0 : Hid (w.cell? ⟨3, 0, none⟩ = some (.iface 89 (.pointer (some a3)))) := h3
  clear hrd hkl hsr hb hby h3
  have n8 : (3 : Nat) ≠ bb := h3n.2.1
  have n9 : (3 : Nat) ≠ rb := h3n.1
  have hrz : (0 : Int) < r := by omega
  have hpN : ¬ N ≤ p := by omega
  have hpz : decide ((p : Int) ≥ (N : Int)) = false := decide_eq_false (by omega)
  have hpz2 : (p : Int) ≤ (N : Int) := by omega
  have hz : IntKind.i64.wrap ((q : Int) - r) = p := by rw [wrap_small _ (by omega) (by omega)]; omega
  have hs1 : (r : Int) ≤ (q : Int) := by omega
  have hs2 : (q : Int) ≤ (N : Int) := by omega
  have hNr : ¬ N = r := by omega
  have mR := Tryf.read43
  go_enter Tryf.func31, Tryf.ntmps31
  go_wp2_with fail
  go_region_held3 (fun wz : World => wz.cell? ⟨rb, 0, none⟩ = some (.slice (some ⟨bb, 0, none⟩) N N) ∧ wz.cell? ⟨rb, 2, none⟩ = some (.int .i64 r) ∧ wz.cell? ⟨rb, 3, none⟩ = some (.int .i64 q)) (first | exact ⟨c0, c2, c3⟩ | exact ⟨HK1.out.cell c0 (by simpa using n1), HK1.out.cell c2 (by simpa using n1), HK1.out.cell c3 (by simpa using n1)⟩) (first | (refine step_copy_kept rfl (.tmp 13) (.tmp 26) 22 22 rfl 5 Tryf.underlying22 Tryf.size5 _ _ _ _ _ _ rfl rfl bb 0 cur 5 B0.out (Lib.byteCells P) (by rw [byteCells_len]; exact (show P.length = min (q - r) N by omega)) (fun _ => ⟨rfl, _, (by first | rfl | exact if_neg hNr), bytesAt_cells Y0.out⟩) (by rw [byteCells_len]; omega) (byteCells_one P) ?_; intro w1 HB1 HK1))
  rename_i hh
  clear hh c0 c2 c3
  have R1 : Hid (Cells w1 rb [.slice (some ⟨bb, 0, none⟩) N N, .iface 43 (.pointer (some ⟨kb, 0, none⟩)), .int .i64 r, .int .i64 q, .nilIface, lb, lr] 66) := HK1.out.cells R0.out.drew (by simpa using n1)
  have K1 : Hid (Cells w1 kb [.iface 34 (.pointer (some ⟨sb, 0, none⟩)), .slice none 0 0, .int .i64 0] 45) := HK1.out.cells K0.out.drew (by simpa using n4.symm)
  have S1 : Hid (Cells w1 sb [.slice D dn dc, .int .i64 dn, pr] 51) := HK1.out.cells S0.out.drew (by simpa using n5.symm)
  have Y1 : Hid (BytesAt w1 bb 0 P) := bytesAt_splice HB1.out (Nat.zero_le _)
  have G1 : Hid (w1.cell? ⟨3, 0, none⟩ = some (.iface 89 (.pointer (some a3)))) := HK1.out.cell (by exact G0.out) (by simpa using n8)
  have C1 : Hid ((splice cur 0 (Lib.byteCells P)).length = N) := (length_splice _ _ _ (by rw [byteCells_len]; omega)).trans hc
  have HW1 : Hid (Kept [rb, bb, kb, sb] w w1) := ((Kept.refl _ w).drew).trans (HK1.out.mono (by simp))
  clear K0 S0 Y0 G0 B0 HK1 R0
  have c2 := R1.out.cell 2 rfl
  have c3 := R1.out.cell 3 rfl
  have f2 := R1.out.frozen 2
  have f3 := R1.out.frozen 3
  go_wp2_with fail
  go_region
  clear c2 c3 f2 f3
  generalize splice cur 0 (Lib.byteCells P) = cur' at *
  generalize hu2 : (w1.setCell ⟨rb, 3, none⟩ (.int .i64 p)).drew = u2
  have R2 : Hid (Cells u2 rb [.slice (some ⟨bb, 0, none⟩) N N, .iface 43 (.pointer (some ⟨kb, 0, none⟩)), .int .i64 r, .int .i64 p, .nilIface, lb, lr] 66) := by subst hu2; exact R1.out.set 3 _
  have c2 := R2.out.cell 2 rfl
  have f2 := R2.out.frozen 2
  go_wp2_with fail
  generalize hu3 : u2.setCell ⟨rb, 2, none⟩ (.int .i64 0) = u3
  have R0 : Hid (Cells u3 rb [.slice (some ⟨bb, 0, none⟩) N N, .iface 43 (.pointer (some ⟨kb, 0, none⟩)), .int .i64 0, .int .i64 p, .nilIface, lb, lr] 66) := by subst hu3; exact R2.out.set 2 _
  have HW2 : Hid (Kept [rb] w1 u3) := by subst hu3 hu2; exact ((((Kept.refl _ w1).setCell _ _ (by simp)).drew).setCell _ _ (by simp))
  have HW3 : Hid (Kept [rb, bb, kb, sb] w u3) := HW1.out.trans (HW2.out.mono (by simp))
  have K0 : Hid (Cells u3 kb [.iface 34 (.pointer (some ⟨sb, 0, none⟩)), .slice none 0 0, .int .i64 0] 45) := HW2.out.cells K1.out (by simpa using n2.symm)
  have S0 : Hid (Cells u3 sb [.slice D dn dc, .int .i64 dn, pr] 51) := HW2.out.cells S1.out (by simpa using n3.symm)
  have B0 : Hid (Cells u3 bb cur' 5) := HW2.out.cells HB1.out (by simpa using n1.symm)
  have Y0 : Hid (BytesAt u3 bb 0 P) := HW2.out.bytes Y1.out (by simpa using n1.symm)
  have G0 : Hid (u3.cell? ⟨3, 0, none⟩ = some (.iface 89 (.pointer (some a3)))) := HW2.out.cell G1.out (by simpa using n9)
  clear hu2 hu3 R1 R2 K1 S1 Y1 G1 HB1 HW1 HW2 c2 f2
  have c0 := R0.out.cell 0 rfl
  have c1 := R0.out.cell 1 rfl
  have c2 := R0.out.cell 2 rfl
  have c3 := R0.out.cell 3 rfl
  go_quiet (fail)
  go_wp2_with fail
  refine wp_loop_rounds 1 ?_
  rw [rounds_succ]
  go_wp2_with fail
  go_region_held3 (fun wz : World => wz.cell? ⟨rb, 0, none⟩ = some (.slice (some ⟨bb, 0, none⟩) N N) ∧ wz.cell? ⟨rb, 1, none⟩ = some (.iface 43 (.pointer (some ⟨kb, 0, none⟩))) ∧ wz.cell? ⟨rb, 3, none⟩ = some (.int .i64 p)) (first | exact ⟨c0, c1, c3⟩ | exact ⟨K2.cell c0 (by simpa using n2), K2.cell c1 (by simpa using n2), K2.cell c3 (by simpa using n2)⟩) (first | (refine (backlog_eof _ kb sb D dn dc pr _ a3 (by exact K0.out) (by exact S0.out) (by exact G0.out) n7).mono ?_; rintro x w2 ⟨rfl, k2, K2⟩))
  rename_i hh
  clear hh c0 c1 c2 c3
  have R2 : Hid (Cells w2 rb [.slice (some ⟨bb, 0, none⟩) N N, .iface 43 (.pointer (some ⟨kb, 0, none⟩)), .int .i64 0, .int .i64 p, .nilIface, lb, lr] 66) := K2.cells (R0.out.drewN _) (by simpa using n2)
  have c3 := R2.out.cell 3 rfl
  have f3 := R2.out.frozen 3
  have c4 := R2.out.cell 4 rfl
  have f4 := R2.out.frozen 4
  have KK : Hid (Cells w2 kb [.iface 34 (.pointer (some ⟨sb, 0, none⟩)), .slice none 0 0, .int .i64 0] 45) := k2
  have HK : Hid (Kept [rb, bb, kb, sb] w w2) := (HW3.out.drewN _).trans (K2.mono (by simp))
  have SS : Hid (Cells w2 sb [.slice D dn dc, .int .i64 dn, pr] 51) := K2.cells (S0.out.drewN _) (by simpa using n6.symm)
  have BB : Hid (Cells w2 bb cur' 5) := K2.cells (B0.out.drewN _) (by simpa using n4)
  have YY : Hid (BytesAt w2 bb 0 P) := K2.bytes (by exact Y0.out) (by simpa using n4)
  clear k2
  go_wp2
  have hcl : cur'.length = N := C1.out
  (try simp only [Exit.inBlock, Exit.then]); refine bodyPost_ret (results_none rfl _ _ _) rfl ?_
  refine ⟨rfl, ⟨⟨lb, lr, ?_⟩, (KK.out.other _ _ (by simpa using n2.symm)).other _ _ (by simpa using n2.symm), ⟨_, (SS.out.other _ _ (by simpa using n3.symm)).other _ _ (by simpa using n3.symm)⟩, ⟨_, (BB.out.other _ _ (by simpa using n1.symm)).other _ _ (by simpa using n1.symm), hcl⟩, ?_, by omega, hbig⟩, ?_⟩
  · rw [show 0 + P.length = p by omega]; exact (R2.out.set 3 _).set 4 _
  · exact (((Kept.refl [rb] w2).setCell _ _ (by simp)).setCell _ _ (by simp)).bytes YY.out (by simpa using n1.symm)
  · exact (HK.out.setCell _ _ (by simp)).setCell _ _ (by simp)

/-- a fill at the end of the data. -/
theorem fill_eof (w : World) (rb bb kb sb N dn dc r : Nat) (D : Option Addr) (P : List UInt8) (a3 : Addr) (h : Rd w rb bb kb sb N D dn dc dn r P .nilIface) (h3 : w.cell? ⟨3, 0, none⟩ = some (.iface 89 (.pointer (some a3)))) (h3n : 3 ∉ [rb, bb, kb, sb]) :
    Calls Tryf.prog 31 #[.pointer (some ⟨rb, 0, none⟩)] w fun x w' => x = .returned (.tuple #[]) ∧ Rd w' rb bb kb sb N D dn dc dn 0 P (.iface 89 (.pointer (some a3))) ∧ Kept [rb, bb, kb, sb] w w' := by
  rcases Nat.eq_zero_or_pos r with rfl | hr
  · exact fill_eof0 w rb bb kb sb N dn dc D P a3 h h3 h3n
  · exact fill_eof1 w rb bb kb sb N dn dc r D P a3 h hr h3 h3n
end Go.Proofs.Qxb6616016aFmt
