/-
  THE CONTRACT OF namedTwice (function 20) AND ZZnamedTwice (function 7): fmt.Errorf over the calling stop, at a sentinel under the verb w and a string under the verb q: no method is called; a new *fmt.wrapError that wraps the sentinel itself comes back, whatever text fmt gives. The closed facts are the guide's kind (its worked examples' Fmt texts), at this dump's numbers: 29: fmt.errorf. 83, 85: *errors.errorString, errors.errorString. 75, 144: *fmt.wrapError, fmt.wrapError. 9: string. 24: error.
-/
import Derived.Test.Qxb6603632aFmtRows
import Derived.WalkKit
import Derived.Stop.CallBack
import Derived.Stop.IfaceNil
import Derived.Stop.LaidErr
import GoSem.ClaimData
namespace Go.Proofs.Qxb6603632aFmt
open Go.RowKit Go.Extern.Stop Go.Stop Go.Extern

theorem call29 (args : Array Value) (w : World) : (callFunc 29 args).run Tryf.prog w = (FmtCalls.errorf #[9, 74] #[24] args).run Tryf.prog w :=
  run_callFunc_next Tryf.func29 (by kernel_rfl) (by kernel_rfl) (by kernel_rfl) args w
theorem guardFmt (name : String) (w : World) : (FmtStop.guard name).run Tryf.prog w = .ok () w := by kernel_rfl
theorem nextTurns : Extern.next FmtCalls.turnsRow = some (FmtCalls.begun #[] #[]) := by kernel_rfl

theorem fmtTwice : FmtStop.printed? ⟨#[37, 119, 58, 32, 37, 113, 32, 105, 115, 32, 110, 97, 109, 101, 100, 32, 116, 119, 105, 99, 101]⟩ 2 = some [(0, 119, false), (1, 113, false)] := by kernel_rfl
theorem fmtTwiceR (w : World) : (FmtDoors.printed ⟨#[37, 119, 58, 32, 37, 113, 32, 105, 115, 32, 110, 97, 109, 101, 100, 32, 116, 119, 105, 99, 101]⟩ 2).run Tryf.prog w = .ok [(0, 119, false), (1, 113, false)] w := by kernel_rfl

def shape9 : List UInt8 := [12, 6, 0, 0, 0, 0, 0, 0, 0, 115, 116, 114, 105, 110, 103]
theorem act9 (name : String) (x : Value) (w : World) : (FmtCalls.act name true 113 false (.iface 9 x)).run Tryf.prog w = .ok (.closed true) w := by kernel_rfl
theorem op9 (name : String) (x : ByteArray) (w : World) : (FmtStop.operand name true 113 false (.iface 9 (.string x))).run Tryf.prog w = .ok (shape9, FmtStop.pack x.data.toList) w := by kernel_rfl

theorem ptr83 (w : World) : (FmtStop.ptrTo "errors.errorString").run Tryf.prog w = .ok 83 w := by kernel_rfl
theorem elem83 (w : World) : (elemOf 83).run Tryf.prog w = .ok 85 w := by kernel_rfl
theorem isError83 (w : World) : (FmtDoors.textMethod 83 "Error").run Tryf.prog w = .ok true w := by kernel_rfl
theorem ptr75 (w : World) : (FmtStop.ptrTo "fmt.wrapError").run Tryf.prog w = .ok 75 w := by kernel_rfl
theorem elem75 (w : World) : (elemOf 75).run Tryf.prog w = .ok 144 w := by kernel_rfl
theorem isError75 (w : World) : (FmtDoors.textMethod 75 "Error").run Tryf.prog w = .ok true w := by kernel_rfl
/-- The name of the type 83, as the row's own datum spells it. -/
def starName : String := match (Rows.laid_example_com_causaline_causaline_ErrGroup : DataW Unit) with
  | .iface n _ => n
  | _ => default
def plain83 : List UInt8 := 14 :: FmtStop.pack starName.toUTF8.data.toList
theorem str83 (w : World) : (typeStr 83).run Tryf.prog w = .ok starName w := by kernel_rfl
theorem opPlain83 (name : String) (a : Addr) (s : ByteArray) (w : World) (hc : w.cell? a = some (.string s)) :
    (FmtStop.operand name true 119 false (.iface 83 (.pointer (some a)))).run Tryf.prog w = .ok (plain83, s.data.toList) w := by
  have d2 : Tryf.t83.desc = .pointer 85 := rfl
  have d3 : Tryf.t85.desc = .named "errors.errorString" 84 := rfl
  simp [FmtStop.operand, str83, d2, d3, run_load, hc, plain83]
theorem actPlain83 (name : String) (x : Value) (w : World) : (FmtCalls.act name true 119 false (.iface 83 x)).run Tryf.prog w = .ok (.closed true) w := by kernel_rfl

attribute [local go_sem] call29 guardFmt fmtTwice fmtTwiceR act9 op9 ptr83 elem83 isError83 ptr75 elem75 isError75 actPlain83

set_option maxHeartbeats 400000 in
theorem twice_any (m : ByteArray) (a : Addr) (s : ByteArray) (w : World) (hg : w.cell? ⟨0, 0, none⟩ = some (.iface 83 (.pointer (some a)))) (hs : w.cell? a = some (.string s)) :
    Calls Tryf.prog 20 #[.string m] w fun e w' => e = .returned (.iface 75 (.pointer (some ⟨w.heap.size + 1, 0, none⟩))) ∧ Below w.heap.size w w' ∧ w'.cell? ⟨w.heap.size + 1, 0 + 1, none⟩ = some (.iface 83 (.pointer (some a))) := by
  have hs1 : ∀ o, (w.alloc o).cell? a = some (.string s) := fun o => cell?_alloc_old o hs
  have hop := fun o => opPlain83 "fmt.errorf" a s (w.alloc o) (hs1 o)
  go_enter Tryf.func20, Tryf.ntmps20
  go_wp2
  apply rows_value nextTurns
  case hr =>
    go_simp
    exact ⟨rfl, rfl⟩
  case h =>
    go_wp2
    go_ret
    exact ⟨rfl, (((Below.refl _ w).alloc (Nat.le_refl _) _).alloc (by simp) _).drew, by go_simp⟩

theorem zzTwice_any (m : ByteArray) (a : Addr) (s : ByteArray) (w : World) (hg : w.cell? ⟨0, 0, none⟩ = some (.iface 83 (.pointer (some a)))) (hs : w.cell? a = some (.string s)) :
    Calls Tryf.prog 7 #[.string m] w fun e w' => e = .returned (.iface 75 (.pointer (some ⟨w.heap.size + 1, 0, none⟩))) ∧ Below w.heap.size w w' ∧ w'.cell? ⟨w.heap.size + 1, 0 + 1, none⟩ = some (.iface 83 (.pointer (some a))) := by
  go_enter Tryf.func7, Tryf.ntmps7
  go_wp2_with (go_at_call 20; refine (twice_any m a s _ hg hs).mono ?_; rintro e w1 ⟨rfl, hb, hc⟩)
  go_ret
  exact ⟨rfl, hb, hc⟩
end Go.Proofs.Qxb6603632aFmt
