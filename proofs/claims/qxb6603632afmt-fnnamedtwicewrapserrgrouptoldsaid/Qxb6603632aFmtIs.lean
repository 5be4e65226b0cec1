/-
  errors.Is BY ITS CONTRACTS at this program, after the guide's worked text (Sentry): Go's own text of errors.Is and errors.is is walked, at a *fmt.wrapError that wraps a sentinel of errors.New's make. The numbers, read off the dump by name: 24: error. 83, 85: *errors.errorString, errors.errorString. 75: *fmt.wrapError. 62: reflectlite's rtype. 64, 67, 69: the three interfaces that errors.is asks for. 15: how many package-level variables the dump has. Functions: 8: errors.Is. 21: reflectlite.TypeOf. 89: (rtype).Comparable. 99: (*fmt.wrapError).Unwrap.
-/
import Derived.Test.Qxb6603632aFmtChecked
import Derived.WalkKit
import Derived.LaidEql
import Derived.Stop.Asserts
import Derived.RowKitTokens
namespace Go.Proofs.Qxb6603632aFmt
open Go.RowKit Go.Extern.Stop Go.Stop Go.Extern

theorem isTypeOf (v : Value) (w : World) : (Extern.ReflectliteType.typeOf #[.iface 83 v]).run Tryf.prog w = .ok (.iface 62 (.agg #[.pointer (some ⟨15, 83, none⟩)])) w := by kernel_rfl
theorem call89 (w : World) : (callFunc 89 #[.agg #[.pointer (some ⟨15, 83, none⟩)]]).run Tryf.prog w = .ok (.value (.bool true)) w := by kernel_rfl
theorem isMethodComparable (k : Nat) (v : Value) (w : World) : (Go.method (k + 3) 62 v "Comparable").run Tryf.prog w = .ok (89, v) w := by kernel_rfl
theorem isComp : (Tryf.prog.info? 83).map (·.comparable) = some true := by kernel_rfl
theorem isSize : (Tryf.prog.info? 85).map (·.size) = some 1 := by kernel_rfl

theorem noIsE (v : Value) (xT : TypeId) (w : World) : (Instr.typeAssert (.iface 83 v) xT 64 true).run Tryf.prog w = .ok (.tuple #[.nilIface, .bool false]) w := run_typeAssert_lacksB Tryf.underlying64 (by kernel_rfl) (by kernel_rfl) v xT w
theorem noUnwrapE (v : Value) (xT : TypeId) (w : World) : (Instr.typeAssert (.iface 83 v) xT 67 true).run Tryf.prog w = .ok (.tuple #[.nilIface, .bool false]) w := run_typeAssert_lacksB Tryf.underlying67 (by kernel_rfl) (by kernel_rfl) v xT w
theorem noUnwrapsE (v : Value) (xT : TypeId) (w : World) : (Instr.typeAssert (.iface 83 v) xT 69 true).run Tryf.prog w = .ok (.tuple #[.nilIface, .bool false]) w := run_typeAssert_lacksB Tryf.underlying69 (by kernel_rfl) (by kernel_rfl) v xT w
theorem noIsW (v : Value) (xT : TypeId) (w : World) : (Instr.typeAssert (.iface 75 v) xT 64 true).run Tryf.prog w = .ok (.tuple #[.nilIface, .bool false]) w := run_typeAssert_lacksB Tryf.underlying64 (by kernel_rfl) (by kernel_rfl) v xT w
theorem hasUnwrapW (v : Value) (xT : TypeId) (w : World) : (Instr.typeAssert (.iface 75 v) xT 67 true).run Tryf.prog w = .ok (.tuple #[.iface 75 v, .bool true]) w := run_typeAssert_hasB Tryf.underlying67 (by kernel_rfl) v xT w
theorem methodUnwrap (k : Nat) (v : Value) (w : World) : (Go.method (k + 3) 75 v "Unwrap").run Tryf.prog w = .ok (99, v) w := by kernel_rfl

/-- errors.Is(e, x), e a *fmt.wrapError that wraps x itself: one Unwrap, then equal. -/
theorem is_wrap_same (pb po : Nat) (b : Addr) (w : World) (h1 : w.cell? ⟨pb, po + 1, none⟩ = some (.iface 83 (.pointer (some b)))) :
    Calls Tryf.prog 8 #[.iface 75 (.pointer (some ⟨pb, po, none⟩)), .iface 83 (.pointer (some b))] w fun e w' => e = .returned (.bool true) ∧ w' = w := by
  obtain ⟨i, hi, hcmp⟩ := Option.map_eq_some_iff.1 isComp
  obtain ⟨j, hj, hjs⟩ := Option.map_eq_some_iff.1 isSize
  have h8 := @run_callFunc_extern Tryf.prog 21 _ Extern.ReflectliteType.typeOf Tryf.func21 (by kernel_rfl) (by kernel_rfl) (by kernel_rfl) (by kernel_rfl)
  have h32 := call89
  have tT := isTypeOf
  have mR := isMethodComparable
  have nE := noIsE
  have uE := noUnwrapE
  have vE := noUnwrapsE
  have nW := noIsW
  have uW := hasUnwrapW
  have mU := methodUnwrap
  have heq := run_eql_iface_ptr_same (P := Tryf.prog) w b Tryf.underlying24 Tryf.underlying83 hi hcmp hj
  have hty := run_eql_iface_types (P := Tryf.prog) 75 83 (.pointer (some ⟨pb, po, none⟩)) (.pointer (some b)) Tryf.underlying24 (by decide) w
  go_enter Tryf.func8, Tryf.ntmps8
  go_wp2
  refine wp_loop_rounds 2 ?_
  rw [rounds_succ]
  go_wp2
  rw [rounds_succ]
  go_wp2
  go_ret
  exact ⟨rfl, rfl⟩

/-- errors.Is(e, x), e a *fmt.wrapError that wraps another error of errors.New's make. -/
theorem is_wrap_other (pb po : Nat) (b a : Addr) (ca cb : Array Value) (ta tb : TypeId) (w : World) (h1 : w.cell? ⟨pb, po + 1, none⟩ = some (.iface 83 (.pointer (some a)))) (hne : a ≠ b) (ha : w.heap[a.block]? = some (.cells ca ta (0, 0))) (hb : w.heap[b.block]? = some (.cells cb tb (0, 0))) :
    Calls Tryf.prog 8 #[.iface 75 (.pointer (some ⟨pb, po, none⟩)), .iface 83 (.pointer (some b))] w fun e w' => e = .returned (.bool false) ∧ w' = w := by
  obtain ⟨i, hi, hcmp⟩ := Option.map_eq_some_iff.1 isComp
  obtain ⟨j, hj, hjs⟩ := Option.map_eq_some_iff.1 isSize
  have h8 := @run_callFunc_extern Tryf.prog 21 _ Extern.ReflectliteType.typeOf Tryf.func21 (by kernel_rfl) (by kernel_rfl) (by kernel_rfl) (by kernel_rfl)
  have h32 := call89
  have tT := isTypeOf
  have mR := isMethodComparable
  have nE := noIsE
  have uE := noUnwrapE
  have vE := noUnwrapsE
  have nW := noIsW
  have uW := hasUnwrapW
  have mU := methodUnwrap
  have heq := run_eql_iface_ptr_other (P := Tryf.prog) w Tryf.underlying24 Tryf.underlying83 hi hcmp hj (by rw [hjs]; decide) hne ha hb
  have hty := run_eql_iface_types (P := Tryf.prog) 75 83 (.pointer (some ⟨pb, po, none⟩)) (.pointer (some b)) Tryf.underlying24 (by decide) w
  go_enter Tryf.func8, Tryf.ntmps8
  go_wp2
  refine wp_loop_rounds 2 ?_
  rw [rounds_succ]
  go_wp2
  rw [rounds_succ]
  go_wp2
  go_ret
  exact ⟨rfl, rfl⟩
end Go.Proofs.Qxb6603632aFmt
