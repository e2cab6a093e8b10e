import Derived.Test.Qxb6616016aFmtLaid
import Derived.Test.Qxb6616016aFmtCut
import Derived.OpenShut
import Derived.ProofKit
namespace Go.Proofs.Qxb6616016aFmt
open Go.ChangeShapes Go.WideShapes Go.ChangeAt Go.RowKit

set_option maxRecDepth 100000 in
/-- a slice of bytes that came in: nil, or it leads to a row of bytes. -/
theorem open_bytes {H : Type} {enc : TypeId × Value → H} {W : World} {base : Nat} {v : Value} {d : DataW H} {p : List MemPlace} (hv : Value.okWide Tryf.prog W .any base 22 v) (h : DataW.Trod enc Tryf.prog W 0 (fun _ => true) true 22 v d p) :
    v = .slice none 0 0 ∨ ∃ (ad : Addr) (dn dc : Nat) (P : List UInt8), v = .slice (some ad) dn dc ∧ dn ≤ dc ∧ P.length = dn ∧ CellsAt W ad P := by
  obtain ⟨a0, len0, cap0, rfl⟩ := okWide_slice Tryf.underlying22 hv
  obtain ⟨fuel, hf⟩ := h
  rcases open_ints Tryf.underlying22 Tryf.underlying5 Tryf.cells5 hf with ⟨hcs, _⟩ | ⟨x, l, c, zs, hcs, _, hl, hm, hz, _, hcell, hwz⟩
  · simp [Value.cells] at hcs
    obtain ⟨rfl, rfl, rfl⟩ := hcs
    exact .inl rfl
  · simp [Value.cells] at hcs
    obtain ⟨rfl, rfl, rfl⟩ := hcs
    have hzl : zs.length = cap0 := by simpa using hz
    refine .inr ⟨x, len0, cap0, (zs.take len0).map fun n => UInt8.ofNat n.toNat, rfl, hl, by simp; omega, ?_⟩
    intro j v hv
    simp [Lib.byteCells, List.getElem?_take] at hv
    obtain ⟨hj, n, hn, rfl⟩ := hv
    have hjl : j < zs.length := (List.getElem?_eq_some_iff.1 hn).1
    have hc := hcell j hjl
    rw [List.getD_eq_getElem?_getD, hn] at hc
    have hw := hwz n (List.mem_of_getElem? hn)
    simp [Lit.wf, IntKind.min, IntKind.max, IntKind.signed, IntKind.bits] at hw
    rw [hc]
    simp
    omega
end Go.Proofs.Qxb6616016aFmt
