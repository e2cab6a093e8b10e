import Derived.Test.Qxb6616016aFmtRd
import Derived.Test.Qxb6616016aFmtIs
import Derived.Stop.CallBack
import Derived.Stop.IfaceNil
import GoSem.ClaimData
namespace Go.Proofs.Qxb6616016aFmt
open Go.RowKit Go.Extern.Stop Go.Stop Go.Extern

theorem below_drew {B : Nat} {w w' : World} (h : Below B w w') : Below B w w'.drew := ⟨h.os, h.tape, h.output, h.size, h.block⟩

theorem Tryf.call32 (args : Array Value) (w : World) : (callFunc 32 args).run Tryf.prog w = ((FmtStop.errorf #[9, 71] #[37] args).run Tryf.prog w).andThen fun v w' => .ok (.value v) w' :=
  run_callFunc_extern Tryf.func32 (by kernel_rfl) (by kernel_rfl) (by kernel_rfl) (by kernel_rfl) args w
theorem Tryf.guard (name : String) (w : World) : (FmtStop.guard name).run Tryf.prog w = .ok () w := by kernel_rfl
-- the format of the quotes' error
abbrev quotesF : ByteArray := ⟨#[37, 119, 58, 32, 117, 110, 98, 97, 108, 97, 110, 99, 101, 100, 32, 113, 117, 111, 116, 101, 115, 32, 105, 110, 32, 114, 101, 113, 117, 101, 115, 116]⟩
theorem Tryf.fmt0 : FmtStop.printed? quotesF 1 = some [(0, 119, false)] := by kernel_rfl
theorem Tryf.fmt0r (w : World) : (FmtDoors.printed quotesF 1).run Tryf.prog w = .ok [(0, 119, false)] w := by kernel_rfl
theorem Tryf.fmt1 : FmtStop.printed? quotesF 0 = some [] := by kernel_rfl
theorem Tryf.fmt1r (w : World) : (FmtDoors.printed quotesF 0).run Tryf.prog w = .ok [] w := by kernel_rfl
theorem Tryf.ptr89 (w : World) : (FmtStop.ptrTo "errors.errorString").run Tryf.prog w = .ok 89 w := by kernel_rfl
theorem Tryf.elem89 (w : World) : (elemOf 89).run Tryf.prog w = .ok 91 w := by kernel_rfl
theorem Tryf.ptr73 (w : World) : (FmtStop.ptrTo "fmt.wrapError").run Tryf.prog w = .ok 73 w := by kernel_rfl
theorem Tryf.elem73 (w : World) : (elemOf 73).run Tryf.prog w = .ok 119 w := by kernel_rfl
theorem Tryf.isError89 (w : World) : (FmtDoors.textMethod 89 "Error").run Tryf.prog w = .ok true w := by kernel_rfl
theorem Tryf.isError73 (w : World) : (FmtDoors.textMethod 73 "Error").run Tryf.prog w = .ok true w := by kernel_rfl
theorem Tryf.name89 : Tryf.prog.typeName? 3 89 = some "*errors.errorString" := by kernel_rfl
def Tryf.plain89 : List UInt8 := 14 :: FmtStop.pack "*errors.errorString".toUTF8.data.toList
theorem Tryf.opPlain (name : String) (a : Addr) (s : ByteArray) (w : World) (hc : w.cell? a = some (.string s)) :
    (FmtStop.operand name true 119 false (.iface 89 (.pointer (some a)))).run Tryf.prog w = .ok (Tryf.plain89, s.data.toList) w := by
  have h1 : (typeStr 89).run Tryf.prog w = .ok "*errors.errorString" w := by kernel_rfl
  have d2 : Tryf.t89.desc = .pointer 91 := rfl
  have d3 : Tryf.t91.desc = .named "errors.errorString" 90 := rfl
  simp [FmtStop.operand, h1, d2, d3, run_load, hc, Tryf.plain89]

set_option maxHeartbeats 1000000 in
set_option maxRecDepth 100000 in
/-- fmt.Errorf("%w: unbalanced quotes in request", ErrProtocol): a new *fmt.wrapError that holds the sentinel; its text is fmt's. -/
theorem errorf_any (F : Interp) (vb : Nat) (a : Addr) (s : ByteArray) (w : World) (hF : F.answers w.tape) (hv : w.cell? ⟨vb, 0, none⟩ = some (.iface 89 (.pointer (some a)))) (hs : w.cell? a = some (.string s)) :
    Calls Tryf.prog 21 #[.string quotesF, .slice (some ⟨vb, 0, none⟩) 1 1] w fun e w' => e = .returned (.iface 73 (.pointer (some ⟨w.heap.size, 0, none⟩))) ∧ w'.cell? ⟨w.heap.size, 1, none⟩ = some (.iface 89 (.pointer (some a))) ∧ Below w.heap.size w w' := by
  have hF' : ∀ i name reading k range, w.tape i (.extern (word name reading k) range) = F name reading k := hF
  have hop := Tryf.opPlain "fmt.errorf" a s w hs
  have e1 := Tryf.call32
  have e2 := Tryf.guard
  have e3 := Tryf.fmt0
  have e4 := Tryf.fmt0r
  have e5 := Tryf.fmt1
  have e6 := Tryf.fmt1r
  have e7 := Tryf.ptr89
  have e8 := Tryf.elem89
  have e9 := Tryf.ptr73
  have e10 := Tryf.elem73
  have e11 := Tryf.isError89
  have e12 := Tryf.isError73
  clear hF
  go_enter Tryf.func21, Tryf.ntmps21
  go_wp2
  go_ret
  refine ⟨rfl, by simp, ?_⟩
  exact below_drew ((Below.refl w.heap.size w).alloc (Nat.le_refl _) _)

set_option maxHeartbeats 1000000 in
/-- unexpectedEOF(io.EOF) -/
theorem unexpected_any (a1 a3 : Addr) (w : World) (h3 : w.cell? ⟨3, 0, none⟩ = some (.iface 89 (.pointer (some a3)))) (h1 : w.cell? ⟨1, 0, none⟩ = some (.iface 89 (.pointer (some a1)))) :
    Calls Tryf.prog 22 #[.iface 89 (.pointer (some a3))] w fun e w' => e = .returned (.iface 89 (.pointer (some a1))) ∧ w' = w := by
  obtain ⟨i, hi, hcmp⟩ := Option.map_eq_some_iff.1 Tryf.isComp
  obtain ⟨j, hj, hjs⟩ := Option.map_eq_some_iff.1 Tryf.isSize
  have heq := run_eql_iface_ptr_same (P := Tryf.prog) w a3 Tryf.underlying37 Tryf.underlying89 hi hcmp hj
  go_enter Tryf.func22, Tryf.ntmps22
  go_wp2
  go_ret
  exact ⟨rfl, rfl⟩
end Go.Proofs.Qxb6616016aFmt
