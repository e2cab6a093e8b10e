import Derived.Test.Qxb6616016aFmtFillB
namespace Go.Proofs.Qxb6616016aFmt
open Go.RowKit

set_option maxHeartbeats 1000000 in
/-- bytes.NewReader -/
theorem bytesNew_any (w : World) (D : Option Addr) (dn dc : Nat) :
    Calls Tryf.prog 16 #[.slice D dn dc] w fun x w' => x = .returned (.pointer (some ⟨w.heap.size, 0, none⟩)) ∧ w' = w.alloc (.cells #[.slice D dn dc, .int .i64 0, .int .i64 (-1)] 51) := by
  go_enter Tryf.func16, Tryf.ntmps16
  go_wp2
  go_ret
  exact ⟨rfl, rfl⟩

set_option maxHeartbeats 1000000 in
/-- (*bufio.Reader).reset -/
theorem reset_any (w : World) (rb bb kb N : Nat) (y0 y1 y2 y3 y4 y5 y6 : Value) (h : Cells w rb [y0, y1, y2, y3, y4, y5, y6] 66) :
    Calls Tryf.prog 27 #[.pointer (some ⟨rb, 0, none⟩), .slice (some ⟨bb, 0, none⟩) N N, .iface 43 (.pointer (some ⟨kb, 0, none⟩))] w fun x w' => x = .returned (.tuple #[]) ∧ Cells w' rb [.slice (some ⟨bb, 0, none⟩) N N, .iface 43 (.pointer (some ⟨kb, 0, none⟩)), .int .i64 0, .int .i64 0, .nilIface, .int .i64 (-1), .int .i64 (-1)] 66 ∧ Kept [rb] w w' := by
  have H : Hid (Cells w rb [y0, y1, y2, y3, y4, y5, y6] 66) := h
  have c0 := h.cell 0 rfl
  have c1 := h.cell 1 rfl
  have c2 := h.cell 2 rfl
  have c3 := h.cell 3 rfl
  have c4 := h.cell 4 rfl
  have c5 := h.cell 5 rfl
  have c6 := h.cell 6 rfl
  have f0 := h.frozen 0
  have f1 := h.frozen 1
  have f2 := h.frozen 2
  have f3 := h.frozen 3
  have f4 := h.frozen 4
  have f5 := h.frozen 5
  have f6 := h.frozen 6
  clear h
  go_enter Tryf.func27, Tryf.ntmps27
  go_wp2
  go_end0
  refine ⟨rfl, ((((((H.out.set 0 _).set 1 _).set 2 _).set 3 _).set 4 _).set 5 _).set 6 _, (((((((Kept.refl _ w).setCell _ _ ?_).setCell _ _ ?_).setCell _ _ ?_).setCell _ _ ?_).setCell _ _ ?_).setCell _ _ ?_).setCell _ _ ?_⟩ <;> simp

theorem Tryf.noBufio (v : Value) (w : World) : (Instr.typeAssert (.iface 43 v) 42 46 true).run Tryf.prog w = .ok (.tuple #[.pointer none, .bool false]) w := by kernel_rfl

set_option maxHeartbeats 1000000 in
set_option maxRecDepth 100000 in
/-- bufio.NewReaderSize -/
theorem newSize_any (w : World) (kb N : Nat) (z : Int) (hz : z = (N : Int)) (h16 : 16 ≤ N) (hbig : N ≤ 100000) :
    Calls Tryf.prog 19 #[.iface 43 (.pointer (some ⟨kb, 0, none⟩)), .int .i64 z] w fun x w' => x = .returned (.pointer (some ⟨w.heap.size, 0, none⟩)) ∧
      Cells w' w.heap.size [.slice (some ⟨w.heap.size + 1, 0, none⟩) N N, .iface 43 (.pointer (some ⟨kb, 0, none⟩)), .int .i64 0, .int .i64 0, .nilIface, .int .i64 (-1), .int .i64 (-1)] 66 ∧
      (∃ cur, Cells w' (w.heap.size + 1) cur 5 ∧ cur.length = N) ∧ Below w.heap.size w w' := by
  subst hz
  obtain ⟨i0, hinfo, hz0, hz1, hz2⟩ := info_parts Tryf.info5
  have tA := Tryf.noBufio
  have h16z : (16 : Int) ≤ (N : Int) := by omega
  generalize hw1 : w.alloc (.cells #[.slice none 0 0, .nilIface, .int .i64 0, .int .i64 0, .nilIface, .int .i64 0, .int .i64 0] 66) = w1
  have hs1 : w1.heap.size = w.heap.size + 1 := by subst hw1; simp
  have H1 : Hid (Cells w1 w.heap.size [.slice none 0 0, .nilIface, .int .i64 0, .int .i64 0, .nilIface, .int .i64 0, .int .i64 0] 66) := by subst hw1; exact heap_alloc_new w _
  have B1 : Hid (Below w.heap.size w w1) := by subst hw1; exact (Below.refl _ w).alloc (Nat.le_refl _) _
  have hmk := run_make (P := Tryf.prog) w1 22 5 i0 (.int .u8 0) Tryf.underlying22 hinfo hz0 .i64 .i64 N N (by omega) (by omega) (by rw [hz2]; omega) (by omega)
  simp only [Int.toNat_natCast, hz1, Nat.mul_one] at hmk
  generalize hmc : madeCells (Value.int .u8 0).cells N = mc at hmk
  have HMC : Hid (mc.size = N) := by show mc.size = N; rw [← hmc, size_madeCells]
  clear hmc
  go_enter Tryf.func19, Tryf.ntmps19
  go_wp2_with fail
  have R2 : Cells (w1.alloc (.cells mc 5)) w.heap.size [.slice none 0 0, .nilIface, .int .i64 0, .int .i64 0, .nilIface, .int .i64 0, .int .i64 0] 66 := ((Below.refl w1.heap.size w1).alloc (Nat.le_refl _) _).block _ (by omega) |>.trans H1.out
  have B2 : Cells (w1.alloc (.cells mc 5)) (w.heap.size + 1) mc.toList 5 := by
    unfold Cells
    rw [Array.toArray_toList, ← hs1]
    exact heap_alloc_new w1 _
  have W2 : Below w.heap.size w (w1.alloc (.cells mc 5)) := B1.out.alloc (by omega) _
  refine (reset_any _ w.heap.size (w.heap.size + 1) kb N _ _ _ _ _ _ _ R2).mono ?_
  rintro x w3 ⟨rfl, hC3, hK3⟩
  have C3 : Hid (Cells w3 w.heap.size [.slice (some ⟨w.heap.size + 1, 0, none⟩) N N, .iface 43 (.pointer (some ⟨kb, 0, none⟩)), .int .i64 0, .int .i64 0, .nilIface, .int .i64 (-1), .int .i64 (-1)] 66) := hC3
  have D3 : Hid (Cells w3 (w.heap.size + 1) mc.toList 5) := hK3.cells B2 (by simp)
  have W3 : Hid (Below w.heap.size w w3) := W2.trans (hK3.to_below (by simp; omega) (by simp))
  clear hC3 hK3 R2 B2 W2
  go_wp2
  go_ret
  exact ⟨rfl, C3.out, ⟨_, D3.out, by rw [show mc.toList.length = mc.size by simp]; exact HMC.out⟩, W3.out⟩

set_option maxHeartbeats 1000000 in
set_option maxRecDepth 100000 in
/-- NewReader -/
theorem newReader_any (w : World) (sb : Nat) (m1 m2 : Int) :
    Calls Tryf.prog 15 #[.iface 34 (.pointer (some ⟨sb, 0, none⟩)), .int .i64 m1, .int .i64 m2] w fun x w' => ∃ qb, x = .returned (.pointer (some ⟨qb, 0, none⟩)) ∧ w.heap.size + 3 ≤ qb ∧
      w'.cell? ⟨qb, 0, none⟩ = some (.pointer (some ⟨w.heap.size + 1, 0, none⟩)) ∧
      Cells w' (w.heap.size + 1) [.slice (some ⟨w.heap.size + 2, 0, none⟩) 65536 65536, .iface 43 (.pointer (some ⟨w.heap.size, 0, none⟩)), .int .i64 0, .int .i64 0, .nilIface, .int .i64 (-1), .int .i64 (-1)] 66 ∧
      Cells w' w.heap.size [.iface 34 (.pointer (some ⟨sb, 0, none⟩)), .slice none 0 0, .int .i64 0] 45 ∧
      (∃ cur, Cells w' (w.heap.size + 2) cur 5 ∧ cur.length = 65536) ∧ Below w.heap.size w w' := by
  generalize hN : 65536 = N
  have h16 : 16 ≤ N := by omega
  have hbig : N ≤ 100000 := by omega
  have HN : Hid ((65536 : Int) = (N : Int)) := by show (65536 : Int) = (N : Int); omega
  clear hN
  generalize hw1 : w.alloc (.cells #[.iface 34 (.pointer (some ⟨sb, 0, none⟩)), .slice none 0 0, .int .i64 0] 45) = w1
  have hs1 : w1.heap.size = w.heap.size + 1 := by subst hw1; simp
  have H1 : Hid (Cells w1 w.heap.size [.iface 34 (.pointer (some ⟨sb, 0, none⟩)), .slice none 0 0, .int .i64 0] 45) := by subst hw1; exact heap_alloc_new w _
  have B1 : Hid (Below w.heap.size w w1) := by subst hw1; exact (Below.refl _ w).alloc (Nat.le_refl _) _
  go_enter Tryf.func15, Tryf.ntmps15
  go_wp2_with fail
  refine (newSize_any w1 w.heap.size N _ HN.out h16 hbig).mono ?_
  rw [hs1]
  rintro x w2 ⟨rfl, hC2, ⟨cur, hD2, hcl⟩, hW2⟩
  have hsz : w.heap.size + 3 ≤ w2.heap.size := hD2.lt
  have C2 : Hid (Cells w2 (w.heap.size + 1) [.slice (some ⟨w.heap.size + 2, 0, none⟩) N N, .iface 43 (.pointer (some ⟨w.heap.size, 0, none⟩)), .int .i64 0, .int .i64 0, .nilIface, .int .i64 (-1), .int .i64 (-1)] 66) := hC2
  have D2 : Hid (Cells w2 (w.heap.size + 2) cur 5) := hD2
  have K2 : Hid (Cells w2 w.heap.size [.iface 34 (.pointer (some ⟨sb, 0, none⟩)), .slice none 0 0, .int .i64 0] 45) := (hW2.block _ (by omega)).trans H1.out
  have W2 : Hid (Below w.heap.size w w2) := B1.out.trans (hW2.mono (by omega))
  clear hC2 hD2 hW2
  go_wp2
  go_ret
  have A := fun o => (Below.refl w2.heap.size w2).alloc (Nat.le_refl _) o
  refine ⟨_, rfl, hsz, ?_, ((A _).block _ (by omega)).trans C2.out, ((A _).block _ (by omega)).trans K2.out, ⟨cur, ((A _).block _ (by omega)).trans D2.out, hcl⟩, W2.out.alloc (by omega) _⟩
  simp
end Go.Proofs.Qxb6616016aFmt
