/- What the rows' 'laid' gives: the package-level errors, each a pointer of its own; and one start that fits. -/
import Derived.Test.Qxb6616016aFmtRows
import Derived.Test.Qxb6616016aFmtInline
import Derived.ChangeSame
import Derived.ChangeVars
import Derived.ChangeMaps5
import Derived.JoinedOf
import Derived.RowKit
import Derived.RowKitTokens
import Derived.Stop.JoinedAt
import Derived.Stop.Texts
import Derived.Stop.ErrReads
import Derived.Stop.LaidTwo
namespace Go.Proofs.Qxb6616016aFmt
open Go.ChangeShapes Go.WideShapes Go.ChangeAt Go.RowKit
open Go.Extern.Stop Go.Stop Go.Extern

theorem laid_skip {P : Program} {x y : String × DataW Unit} {r : List (String × DataW Unit)} {w : World} (h : laidMet P (x :: y :: r) w) : laidMet P (x :: r) w := by
  obtain ⟨ps, hv, hnd, hrows⟩ := h
  obtain ⟨n, d⟩ := x
  obtain ⟨n', d'⟩ := y
  obtain ⟨g, t, cs, fuel, p, q, h1, h2, h3, h4, ⟨g', t', cs', fuel', p', q', _, _, _, _, hq', rfl⟩, rfl⟩ := hv
  refine ⟨_, ⟨g, t, cs, fuel, p, q', h1, h2, h3, h4, hq', rfl⟩, ?_, ?_⟩
  · refine List.Nodup.sublist ?_ hnd
    exact List.Sublist.append_left (List.sublist_append_right _ _) _
  · intro b off hm
    refine hrows b off ?_
    rcases List.mem_append.1 hm with h | h
    · exact List.mem_append_left _ h
    · exact List.mem_append_right _ (List.mem_append_right _ h)

theorem Tryf.own : ownKnob Tryf.prog.godebug = none := by kernel_rfl
theorem Tryf.laidOut : laidOutB Tryf.pinned.checked.prog = true := by kernel_rfl
theorem Tryf.stops : Tryf.pinned.checked.prog.stops = ["fmt.errorf"] := by kernel_rfl
theorem Tryf.stopKnobs : Tryf.pinned.checked.prog.stopKnobs = [] := by kernel_rfl
theorem Tryf.quiet (os : Os) : Stop.quiet Tryf.pinned.checked.prog os := by
  intro k hk
  rw [Tryf.stopKnobs] at hk
  cases hk
theorem Tryf.g0 : Tryf.prog.globalNamed "example.com/logtide/logtide/internal/resp.ErrProtocol" = some 0 := by kernel_rfl
theorem Tryf.g1 : Tryf.prog.globalNamed "io.ErrUnexpectedEOF" = some 1 := by kernel_rfl
theorem Tryf.g2 : Tryf.prog.globalNamed "bufio.ErrBufferFull" = some 2 := by kernel_rfl
theorem Tryf.g3 : Tryf.prog.globalNamed "io.EOF" = some 3 := by kernel_rfl
theorem Tryf.g0t : (Tryf.prog.globals[0]?).map (·.type) = some 37 := by kernel_rfl
theorem Tryf.g1t : (Tryf.prog.globals[1]?).map (·.type) = some 37 := by kernel_rfl
theorem Tryf.g2t : (Tryf.prog.globals[2]?).map (·.type) = some 37 := by kernel_rfl
theorem Tryf.g3t : (Tryf.prog.globals[3]?).map (·.type) = some 37 := by kernel_rfl
theorem Tryf.cells91 : Tryf.prog.cellsOf 91 = 1 := by kernel_rfl
theorem Tryf.cells9 : Tryf.prog.cellsOf 9 = 1 := by kernel_rfl
theorem Tryf.cells5 : Tryf.prog.cellsOf 5 = 1 := by kernel_rfl
theorem Tryf.star : "*" ++ "errors.errorString" = "*errors.errorString" := by decide
theorem Tryf.row89 (u : TypeId) (h : Tryf.prog.typeName? 3 u = some "*errors.errorString") : u = 89 :=
  typeName_ptr_named (nm := "errors.errorString") (by rw [Tryf.star]; kernel_rfl) (by kernel_rfl) (by decide) u (by rw [Tryf.star]; exact h)

/-- the list that the three rows share. -/
def laidList : List (String × DataW Unit) := [("io.EOF", Rows.laid_io_EOF), ("io.ErrUnexpectedEOF", Rows.laid_io_ErrUnexpectedEOF), ("io.ErrNoProgress", Rows.laid_io_ErrNoProgress), ("bufio.ErrBufferFull", Rows.laid_bufio_ErrBufferFull), ("bufio.errNegativeRead", Rows.laid_bufio_errNegativeRead), ("example.com/logtide/logtide/internal/resp.ErrProtocol", Rows.laid_example_com_logtide_logtide_internal_resp_ErrProtocol)]

theorem sent_of_laid {W : World} (h : laidMet Tryf.prog laidList W) : ∃ a0 a1 a2 a3 s0, Sent W W.heap.size a0 a1 a2 a3 s0 := by
  have hA := laid_skip (laid_skip h)
  have hB := laid_skip (laid_skip (laid_skip h.tail))
  obtain ⟨a3, a2, s3, s2, c3, c2, t3, t2, v3, v2, k3, _, _, k2, _, _, n32, b3, b2⟩ := laid_sentinels2 hA Tryf.g3 Tryf.g3t Tryf.g2 Tryf.g2t Tryf.underlying37 Tryf.row89 Tryf.underlying89 Tryf.underlying91 rfl rfl Tryf.underlying9 Tryf.cells91 Tryf.cells9
  obtain ⟨a1, a0, s1, s0, c1, c0, t1, t0, v1, v0, k1, _, _, k0, _, _, n10, b1, b0⟩ := laid_sentinels2 hB Tryf.g1 Tryf.g1t Tryf.g0 Tryf.g0t Tryf.underlying37 Tryf.row89 Tryf.underlying89 Tryf.underlying91 rfl rfl Tryf.underlying9 Tryf.cells91 Tryf.cells9
  have e3 : W.cell? ⟨3, 0, none⟩ = some (.iface 89 (.pointer (some a3))) := by simpa using World.var?_cell Tryf.g3 v3 0
  exact ⟨a0, a1, a2, a3, s0, by simpa using World.var?_cell Tryf.g0 v0 0, by simpa using World.var?_cell Tryf.g1 v1 0, by simpa using World.var?_cell Tryf.g2 v2 0, e3, k0, ⟨_, _, b0⟩, ⟨_, _, b1⟩, ⟨_, _, b2⟩, ⟨_, _, b3⟩, n10, n32,
    World.block_lt_of_cell? W _ e3, World.block_lt_of_cell? W _ k0, World.block_lt_of_cell? W _ k1, World.block_lt_of_cell? W _ k2, World.block_lt_of_cell? W _ k3, Nat.le_refl _⟩

/-! ### One start that fits: the six errors as their initialisers lay them -/
noncomputable def low : Nat := (World.holding Tryf.prog default ⟨#[], #[], []⟩).heap.size
def put (w : World) (g b : Nat) : World := { w with heap := w.heap.modify g fun
      | .cells _ t frozen => .cells #[.iface 89 (.pointer (some ⟨b, 0, none⟩))] t frozen
      | o => o }
noncomputable def laidWorld (os : Os) : World :=
  let w0 := World.holding Tryf.prog os ⟨#[.cells #[.string ⟨#[69, 79, 70]⟩] 91,
    .cells #[.string ⟨#[117, 110, 101, 120, 112, 101, 99, 116, 101, 100, 32, 69, 79, 70]⟩] 91,
    .cells #[.string ⟨#[109, 117, 108, 116, 105, 112, 108, 101, 32, 82, 101, 97, 100, 32, 99, 97, 108, 108, 115, 32, 114, 101, 116, 117, 114, 110, 32, 110, 111, 32, 100, 97, 116, 97, 32, 111, 114, 32, 101, 114, 114, 111, 114]⟩] 91,
    .cells #[.string ⟨#[98, 117, 102, 105, 111, 58, 32, 98, 117, 102, 102, 101, 114, 32, 102, 117, 108, 108]⟩] 91,
    .cells #[.string ⟨#[98, 117, 102, 105, 111, 58, 32, 114, 101, 97, 100, 101, 114, 32, 114, 101, 116, 117, 114, 110, 101, 100, 32, 110, 101, 103, 97, 116, 105, 118, 101, 32, 99, 111, 117, 110, 116, 32, 102, 114, 111, 109, 32, 82, 101, 97, 100]⟩] 91,
    .cells #[.string ⟨#[80, 114, 111, 116, 111, 99, 111, 108, 32, 101, 114, 114, 111, 114]⟩] 91], #[], []⟩
  put (put (put (put (put (put w0 3 low) 1 (low + 1)) 5 (low + 2)) 2 (low + 3)) 4 (low + 4)) 0 (low + 5)
theorem laid_met (os : Os) (args : Array Value) : laidMet Tryf.prog laidList ((laidWorld os).forCall (fun _ _ => 0) ⟨#[], args, []⟩).memory :=
  laidMet_of_run (ps := [.cell 3 0, .cell low 0, .cell 1 0, .cell (low + 1) 0, .cell 5 0, .cell (low + 2) 0, .cell 2 0, .cell (low + 3) 0, .cell 4 0, .cell (low + 4) 0, .cell 0 0, .cell (low + 5) 0]) 8 (by kernel_rfl) (by kernel_rfl) (by kernel_rfl)
end Go.Proofs.Qxb6616016aFmt
