import Derived.Test.Qxb6616016aFmtRd
namespace Go.Proofs.Qxb6616016aFmt
open Go.RowKit

theorem Tryf.size5 : (Tryf.prog.info? 5).map (·.size) = some 1 := by kernel_rfl

theorem drew_two (w : World) (a b : Nat) : (w.drewN a).drewN b = w.drewN (a + b) := by simp [World.drewN, Nat.add_assoc]
theorem byteCells_one (l : List UInt8) : ∀ v ∈ Lib.byteCells l, v.oneCell' = true := by
  intro v hv
  simp [Lib.byteCells] at hv
  obtain ⟨c, _, rfl⟩ := hv
  rfl
theorem byteCells_len (l : List UInt8) : (Lib.byteCells l).length = l.length := by simp [Lib.byteCells]
theorem bytesAt_cells {w : World} {b o : Nat} {l : List UInt8} (h : BytesAt w b o l) : ∀ j v, (Lib.byteCells l)[j]? = some v → w.cell? ((⟨b, o, none⟩ : Addr).add j) = some v := by
  intro j v hv
  simp [Lib.byteCells] at hv
  obtain ⟨c, hc, rfl⟩ := hv
  rw [add_at]
  exact h j c hc
theorem bytesAt_splice {w : World} {b : Nat} {cur : List Value} {o : Nat} {l : List UInt8} (h : Cells w b (splice cur o (Lib.byteCells l)) 5) (ho : o ≤ cur.length) : BytesAt w b o l := by
  intro j c hc
  refine h.cell (o + j) ?_
  have hlen : (cur.take o).length = o := by simp; omega
  unfold splice
  rw [List.getElem?_append_right (by omega), hlen, Nat.add_sub_cancel_left, List.getElem?_append_left (by rw [byteCells_len]; exact (List.getElem?_eq_some_iff.1 hc).1)]
  simp [Lib.byteCells, hc]

set_option maxHeartbeats 1000000 in
/-- (*bytes.Reader).Read at the end. -/
theorem read_eof (w : World) (sb : Nat) (D : Option Addr) (dn dc : Nat) (pr p : Value) (a3 : Addr) (h : Cells w sb [.slice D dn dc, .int .i64 dn, pr] 51) (h3 : w.cell? ⟨3, 0, none⟩ = some (.iface 89 (.pointer (some a3)))) :
    Calls Tryf.prog 61 #[.pointer (some ⟨sb, 0, none⟩), p] w fun x w' => x = .returned (.tuple #[.int .i64 0, .iface 89 (.pointer (some a3))]) ∧ ∃ n, w' = w.drewN n := by
  have c0 := h.cell 0 rfl
  have c1 := h.cell 1 rfl
  clear h
  go_enter Tryf.func61, Tryf.ntmps61
  go_wp2_with fail
  go_quiet (fail)
  go_wp2_with fail
  go_quiet (fail)
  go_wp2
  go_ret2
  exact ⟨rfl, _, drew_two _ _ _⟩

set_option maxHeartbeats 1000000 in
/-- (*bytes.Reader).Read of all. -/
theorem read_all (w : World) (sb bb db od : Nat) (dn dc room rc : Nat) (pr : Value) (data : List UInt8) (cur : List Value) (h : Cells w sb [.slice (some ⟨db, od, none⟩) dn dc, .int .i64 0, pr] 51) (hb : Cells w bb cur 5) (hd : BytesAt w db od data) (hdn : data.length = dn) (h0 : 0 < dn) (_hdc : dn ≤ dc) (hr : dn ≤ room) (hc : dn ≤ cur.length) (hbig : dn ≤ 1000000) (hbd : db ≠ bb) (hds : db ≠ sb) :
    Calls Tryf.prog 61 #[.pointer (some ⟨sb, 0, none⟩), .slice (some ⟨bb, 0, none⟩) room rc] w fun x w' => x = .returned (.tuple #[.int .i64 dn, .nilIface]) ∧
      Cells w' sb [.slice (some ⟨db, od, none⟩) dn dc, .int .i64 dn, .int .i64 (-1)] 51 ∧ Cells w' bb (splice cur 0 (Lib.byteCells data)) 5 ∧ Kept [sb, bb] w w' := by
  have c0 := h.cell 0 rfl
  have c1 := h.cell 1 rfl
  have c2 := h.cell 2 rfl
  have f1 := h.frozen 1
  have f2 := h.frozen 2
  have hne : bb ≠ sb := hb.ne h (by decide)
  have H : Hid (Cells w sb [.slice (some ⟨db, od, none⟩) dn dc, .int .i64 0, pr] 51) := h
  have HB : Hid (Cells w bb cur 5) := hb
  have HD : Hid (BytesAt w db od data) := hd
  clear h hb hd
  go_enter Tryf.func61, Tryf.ntmps61
  go_wp2_with fail
  go_quiet (fail)
  go_wp2_with fail
  generalize hw1 : (w.drewN nq).setCell ⟨sb, 2, none⟩ (.int .i64 (-1)) = w1
  have S1 : Hid (Cells w1 sb [.slice (some ⟨db, od, none⟩) dn dc, .int .i64 0, .int .i64 (-1)] 51) := by subst hw1; exact (H.out.drewN nq).set 2 _
  have B1 : Hid (Cells w1 bb cur 5) := by subst hw1; exact (HB.out.drewN nq).other _ _ hne
  have K1 : Hid (Kept [sb, bb] w w1) := by subst hw1; exact ((Kept.refl _ w).drewN nq).setCell _ _ (by simp)
  have D1 : Hid (BytesAt w1 db od data) := K1.out.bytes HD.out (by simp; exact ⟨hds, hbd⟩)
  clear c0 c1 c2 f1 f2 hw1 H HB HD
  have c0 := S1.out.cell 0 rfl
  have c1 := S1.out.cell 1 rfl
  go_region_held3 (fun wz : World => wz.cell? ⟨sb, 0, none⟩ = some (.slice (some ⟨db, od, none⟩) dn dc) ∧ wz.cell? ⟨sb, 1, none⟩ = some (.int .i64 0)) (first | exact ⟨c0, c1⟩ | exact ⟨HK2.out.cell c0 (by simpa using hne.symm), HK2.out.cell c1 (by simpa using hne.symm)⟩) (first | (refine step_copy_kept rfl (.tmp 20) (.tmp 29) 22 22 rfl 5 Tryf.underlying22 Tryf.size5 _ _ _ _ _ _ rfl rfl bb 0 cur 5 B1.out (Lib.byteCells data) (by rw [byteCells_len, hdn]; exact (Nat.min_eq_left hr).symm) (fun _ => ⟨rfl, _, rfl, bytesAt_cells D1.out⟩) (by rw [byteCells_len]; omega) (byteCells_one data) ?_; intro w2 HB2 HK2))
  rw [byteCells_len, hdn]
  have S2 : Hid (Cells w2 sb [.slice (some ⟨db, od, none⟩) dn dc, .int .i64 0, .int .i64 (-1)] 51) := HK2.out.cells S1.out.drew (by simpa using hne.symm)
  clear c0 c1
  rename_i hh
  clear hh
  have c1 := S2.out.cell 1 rfl
  have f1 := S2.out.frozen 1
  go_wp2
  go_ret2
  refine ⟨rfl, S2.out.set 1 _, HB2.out.other _ _ hne, ((K1.out.drew).trans (HK2.out.mono (by simp))).setCell _ _ (by simp)⟩

set_option maxHeartbeats 1000000 in
/-- (*bufio.Reader).Buffered -/
theorem buffered_any (w : World) (rb r p : Nat) (x0 x1 x4 x5 x6 : Value) (h : Cells w rb [x0, x1, .int .i64 r, .int .i64 (r + p : Nat), x4, x5, x6] 66) (hbig : r + p ≤ 1000000) :
    Calls Tryf.prog 30 #[.pointer (some ⟨rb, 0, none⟩)] w fun x w' => x = .returned (.int .i64 p) ∧ ∃ n, w' = w.drewN n := by
  have c2 := h.cell 2 rfl
  have c3 := h.cell 3 rfl
  clear h
  have hz : IntKind.i64.wrap (((r + p : Nat) : Int) - r) = p := by rw [wrap_small _ (by omega) (by omega)]; omega
  go_enter Tryf.func30, Tryf.ntmps30
  go_wp2_with fail
  go_quiet (fail)
  go_wp2
  go_ret
  exact ⟨by go_num, _, rfl⟩

set_option maxHeartbeats 1000000 in
/-- (*bufio.Reader).readErr -/
theorem readErr_any (w : World) (rb : Nat) (x0 x1 x2 x3 e x5 x6 : Value) (h : Cells w rb [x0, x1, x2, x3, e, x5, x6] 66) :
    Calls Tryf.prog 29 #[.pointer (some ⟨rb, 0, none⟩)] w fun x w' => x = .returned e ∧ Cells w' rb [x0, x1, x2, x3, .nilIface, x5, x6] 66 ∧ Kept [rb] w w' := by
  have c4 := h.cell 4 rfl
  have f4 := h.frozen 4
  have H : Hid (Cells w rb [x0, x1, x2, x3, e, x5, x6] 66) := h
  clear h
  go_enter Tryf.func29, Tryf.ntmps29
  go_wp2
  go_ret
  exact ⟨rfl, H.out.set 4 _, (Kept.refl _ _).setCell _ _ (by simp)⟩

theorem Tryf.read34 (a : Addr) (w : World) : (method 234 34 (.pointer (some a)) "Read").run Tryf.prog w = .ok (61, .pointer (some a)) w := by kernel_rfl
theorem Tryf.read43 (a : Addr) (w : World) : (method 234 43 (.pointer (some a)) "Read").run Tryf.prog w = .ok (62, .pointer (some a)) w := by kernel_rfl

set_option maxHeartbeats 1000000 in
set_option maxRecDepth 100000 in
/-- (*backlog).Read of a backlog that holds nothing: the source's Read. -/
theorem backlog_read (w : World) (kb sb : Nat) (p : Value) (Q : Ending → World → Prop) (h : Cells w kb [.iface 34 (.pointer (some ⟨sb, 0, none⟩)), .slice none 0 0, .int .i64 0] 45)
    (hread : ∀ w1, Cells w1 kb [.iface 34 (.pointer (some ⟨sb, 0, none⟩)), .slice none 0 0, .int .i64 0] 45 → Kept [kb] w w1 → Calls Tryf.prog 61 #[.pointer (some ⟨sb, 0, none⟩), p] w1 fun x w' => ∃ n e, x = .returned (.tuple #[.int .i64 n, e]) ∧ Q (.returned (.tuple #[.int .i64 n, e])) w') :
    Calls Tryf.prog 62 #[.pointer (some ⟨kb, 0, none⟩), p] w Q := by
  have c0 := h.cell 0 rfl
  have c1 := h.cell 1 rfl
  have c2 := h.cell 2 rfl
  have f1 := h.frozen 1
  have H : Hid (Cells w kb [.iface 34 (.pointer (some ⟨sb, 0, none⟩)), .slice none 0 0, .int .i64 0] 45) := h
  clear h
  have mR := Tryf.read34
  go_enter Tryf.func62, Tryf.ntmps62
  go_wp2_with fail
  refine (hread _ (H.out.set 1 _) ((Kept.refl _ _).setCell _ _ (by simp))).mono ?_
  rintro x w' ⟨n, e, rfl, hQ⟩
  go_wp2
  exact hQ
end Go.Proofs.Qxb6616016aFmt
