/- errors.Is by its contracts where the target is a sentinel of errors.New (turned from the kit's worked example Sentry to this dump's numbers). -/
import Derived.Test.Qxb6616016aFmtProg
import Derived.WalkKit
import Derived.LaidEql
import Derived.Stop.Asserts
import Derived.RowKitTokens
namespace Go.Proofs.Qxb6616016aFmt
open Go.RowKit Go.Extern.Stop Go.Stop Go.Extern

/-! ### CLOSED FACTS: what 'reflectlite.TypeOf(target).Comparable()' gives at such a target -/
theorem Tryf.callTypeOf (v : Value) (w : World) : (callFunc 25 #[.iface 89 v]).run Tryf.prog w = .ok (.value (.iface 78 (.agg #[.pointer (some ⟨7, 89, none⟩)]))) w := by kernel_rfl
theorem Tryf.callComparable (w : World) : (callFunc 70 #[.agg #[.pointer (some ⟨7, 89, none⟩)]]).run Tryf.prog w = .ok (.value (.bool true)) w := by kernel_rfl
theorem Tryf.isMethodComparable (v : Value) (w : World) : (Go.method 234 78 v "Comparable").run Tryf.prog w = .ok (70, v) w := by kernel_rfl
theorem Tryf.isComp : (Tryf.prog.info? 89).map (·.comparable) = some true := by kernel_rfl
theorem Tryf.isSize : (Tryf.prog.info? 91).map (·.size) = some 1 := by kernel_rfl

/-! ### CLOSED FACTS ON THE METHOD SETS: what errors.is's assertions find -/
theorem Tryf.noIsE (v : Value) (xT : TypeId) (w : World) : (Instr.typeAssert (.iface 89 v) xT 80 true).run Tryf.prog w = .ok (.tuple #[.nilIface, .bool false]) w := run_typeAssert_lacksB Tryf.underlying80 (by kernel_rfl) (by kernel_rfl) v xT w
theorem Tryf.noUnwrapE (v : Value) (xT : TypeId) (w : World) : (Instr.typeAssert (.iface 89 v) xT 83 true).run Tryf.prog w = .ok (.tuple #[.nilIface, .bool false]) w := run_typeAssert_lacksB Tryf.underlying83 (by kernel_rfl) (by kernel_rfl) v xT w
theorem Tryf.noUnwrapsE (v : Value) (xT : TypeId) (w : World) : (Instr.typeAssert (.iface 89 v) xT 84 true).run Tryf.prog w = .ok (.tuple #[.nilIface, .bool false]) w := run_typeAssert_lacksB Tryf.underlying84 (by kernel_rfl) (by kernel_rfl) v xT w
theorem Tryf.noIsW (v : Value) (xT : TypeId) (w : World) : (Instr.typeAssert (.iface 73 v) xT 80 true).run Tryf.prog w = .ok (.tuple #[.nilIface, .bool false]) w := run_typeAssert_lacksB Tryf.underlying80 (by kernel_rfl) (by kernel_rfl) v xT w
theorem Tryf.hasUnwrapW (v : Value) (xT : TypeId) (w : World) : (Instr.typeAssert (.iface 73 v) xT 83 true).run Tryf.prog w = .ok (.tuple #[.iface 73 v, .bool true]) w := run_typeAssert_hasB Tryf.underlying83 (by kernel_rfl) v xT w
theorem Tryf.methodUnwrap (v : Value) (w : World) : (Go.method 234 73 v "Unwrap").run Tryf.prog w = .ok (66, v) w := by kernel_rfl

set_option maxHeartbeats 1000000 in
set_option maxRecDepth 100000 in
/-- errors.Is(x, x), x a pointer to an errors.errorString. -/
theorem is_same (a : Addr) (w : World) :
    Calls Tryf.prog 18 #[.iface 89 (.pointer (some a)), .iface 89 (.pointer (some a))] w fun e w' => e = .returned (.bool true) ∧ w' = w := by
  obtain ⟨i, hi, hcmp⟩ := Option.map_eq_some_iff.1 Tryf.isComp
  obtain ⟨j, hj, hjs⟩ := Option.map_eq_some_iff.1 Tryf.isSize
  have tT := Tryf.callTypeOf
  have cT := Tryf.callComparable
  have mR := Tryf.isMethodComparable
  have heq := run_eql_iface_ptr_same (P := Tryf.prog) w a Tryf.underlying37 Tryf.underlying89 hi hcmp hj
  go_enter Tryf.func18, Tryf.ntmps18
  go_wp2
  refine wp_loop_rounds 1 ?_
  rw [rounds_succ]
  go_wp2
  go_ret
  exact ⟨rfl, rfl⟩

set_option maxHeartbeats 1000000 in
set_option maxRecDepth 100000 in
/-- errors.Is(nil, x). -/
theorem is_nil (b : Addr) (w : World) :
    Calls Tryf.prog 18 #[.nilIface, .iface 89 (.pointer (some b))] w fun e w' => e = .returned (.bool false) ∧ w' = w := by
  have hn := run_eql_iface_nil_left (P := Tryf.prog) w 89 (.pointer (some b)) Tryf.underlying37
  go_enter Tryf.func18, Tryf.ntmps18
  go_wp2
  go_ret
  exact ⟨rfl, rfl⟩

set_option maxHeartbeats 1000000 in
set_option maxRecDepth 100000 in
/-- errors.Is(x, y), two different pointers to errors.errorString: neither has Is nor Unwrap: false. -/
theorem is_other (a b : Addr) (ca cb : Array Value) (ta tb : TypeId) (w : World) (hne : a ≠ b) (ha : w.heap[a.block]? = some (.cells ca ta (0, 0))) (hb : w.heap[b.block]? = some (.cells cb tb (0, 0))) :
    Calls Tryf.prog 18 #[.iface 89 (.pointer (some a)), .iface 89 (.pointer (some b))] w fun e w' => e = .returned (.bool false) ∧ w' = w := by
  obtain ⟨i, hi, hcmp⟩ := Option.map_eq_some_iff.1 Tryf.isComp
  obtain ⟨j, hj, hjs⟩ := Option.map_eq_some_iff.1 Tryf.isSize
  have tT := Tryf.callTypeOf
  have cT := Tryf.callComparable
  have mR := Tryf.isMethodComparable
  have nE := Tryf.noIsE
  have uE := Tryf.noUnwrapE
  have vE := Tryf.noUnwrapsE
  have nW := Tryf.noIsW
  have uW := Tryf.hasUnwrapW
  have mU := Tryf.methodUnwrap
  have heq := run_eql_iface_ptr_other (P := Tryf.prog) w Tryf.underlying37 Tryf.underlying89 hi hcmp hj (by rw [hjs]; decide) hne ha hb
  go_enter Tryf.func18, Tryf.ntmps18
  go_wp2
  refine wp_loop_rounds 1 ?_
  rw [rounds_succ]
  go_wp2
  go_ret
  exact ⟨rfl, rfl⟩

set_option maxHeartbeats 1000000 in
set_option maxRecDepth 100000 in
/-- errors.Is(e, x), e a *fmt.wrapError that wraps x itself: one Unwrap, then equal. -/
theorem is_wrap_same (pb po : Nat) (b : Addr) (w : World) (h1 : w.cell? ⟨pb, po + 1, none⟩ = some (.iface 89 (.pointer (some b)))) :
    Calls Tryf.prog 18 #[.iface 73 (.pointer (some ⟨pb, po, none⟩)), .iface 89 (.pointer (some b))] w fun e w' => e = .returned (.bool true) ∧ w' = w := by
  obtain ⟨i, hi, hcmp⟩ := Option.map_eq_some_iff.1 Tryf.isComp
  obtain ⟨j, hj, hjs⟩ := Option.map_eq_some_iff.1 Tryf.isSize
  have tT := Tryf.callTypeOf
  have cT := Tryf.callComparable
  have mR := Tryf.isMethodComparable
  have nE := Tryf.noIsE
  have uE := Tryf.noUnwrapE
  have vE := Tryf.noUnwrapsE
  have nW := Tryf.noIsW
  have uW := Tryf.hasUnwrapW
  have mU := Tryf.methodUnwrap
  have heq := run_eql_iface_ptr_same (P := Tryf.prog) w b Tryf.underlying37 Tryf.underlying89 hi hcmp hj
  have hty := run_eql_iface_types (P := Tryf.prog) 73 89 (.pointer (some ⟨pb, po, none⟩)) (.pointer (some b)) Tryf.underlying37 (by decide) w
  go_enter Tryf.func18, Tryf.ntmps18
  go_wp2
  refine wp_loop_rounds 2 ?_
  rw [rounds_succ]
  go_wp2
  rw [rounds_succ]
  go_wp2
  go_ret
  exact ⟨rfl, rfl⟩

set_option maxHeartbeats 1000000 in
set_option maxRecDepth 100000 in
/-- errors.Is(e, x), e a *fmt.wrapError that wraps another error of errors.New's make. -/
theorem is_wrap_other (pb po : Nat) (b a : Addr) (ca cb : Array Value) (ta tb : TypeId) (w : World) (h1 : w.cell? ⟨pb, po + 1, none⟩ = some (.iface 89 (.pointer (some a)))) (hne : a ≠ b) (ha : w.heap[a.block]? = some (.cells ca ta (0, 0))) (hb : w.heap[b.block]? = some (.cells cb tb (0, 0))) :
    Calls Tryf.prog 18 #[.iface 73 (.pointer (some ⟨pb, po, none⟩)), .iface 89 (.pointer (some b))] w fun e w' => e = .returned (.bool false) ∧ w' = w := by
  obtain ⟨i, hi, hcmp⟩ := Option.map_eq_some_iff.1 Tryf.isComp
  obtain ⟨j, hj, hjs⟩ := Option.map_eq_some_iff.1 Tryf.isSize
  have tT := Tryf.callTypeOf
  have cT := Tryf.callComparable
  have mR := Tryf.isMethodComparable
  have nE := Tryf.noIsE
  have uE := Tryf.noUnwrapE
  have vE := Tryf.noUnwrapsE
  have nW := Tryf.noIsW
  have uW := Tryf.hasUnwrapW
  have mU := Tryf.methodUnwrap
  have heq := run_eql_iface_ptr_other (P := Tryf.prog) w Tryf.underlying37 Tryf.underlying89 hi hcmp hj (by rw [hjs]; decide) hne ha hb
  have hty := run_eql_iface_types (P := Tryf.prog) 73 89 (.pointer (some ⟨pb, po, none⟩)) (.pointer (some b)) Tryf.underlying37 (by decide) w
  go_enter Tryf.func18, Tryf.ntmps18
  go_wp2
  refine wp_loop_rounds 2 ?_
  rw [rounds_succ]
  go_wp2
  rw [rounds_succ]
  go_wp2
  go_ret
  exact ⟨rfl, rfl⟩

end Go.Proofs.Qxb6616016aFmt
