/-
  No cell of these rows narrows 'for every input' (looked for: loops, veiled, ifaces, maps, wideKeys, modest, calm, conditions, laid).
  DERIVED. THE GIVEN ROWS OF THIS SEAT. 2 by the template 'for every input the law returns true; each argument reads behind the call as it read before'; 0 by the template 'total and deterministic' (their statements: Qxb6603517aTotals.lean).
  GIVEN WITH THE SEED: the statements are not yours to turn. If you find one false, say at which input.
  Laid BY PROGRAM, IN A SANDBOX (cutbox-rows.mjs): the forced cells as the released guide's own fill.sh prints them over the translation 795df5db710e4e22… (all of the seat's roots in one cut). By AI agents, Wed Nov 11 2026. No macro, syntax, notation, axiom, sorry.
-/
import Derived.Test.Qxb6603517aChecked
import GoSem.Claim
import GoSem.ClaimJoined
import GoSem.ClaimMapViews
import Derived.JoinedTies
import Derived.KernelRfl
namespace Go.Proofs.Qxb6603517a
/- THE CELL 'sum', in the pinned program and in every row, IS THE sha256 OF THE DUMP (.gsa) THAT Qxb6603517aProg.lean LOADS. Nothing in Lean hashes anything: it is a label: what it is worth is what the hold of that sum in a sandbox is worth. -/
noncomputable def Try.pinned : Pinned := { name := "qxb6603517a", sum := "795df5db710e4e22571fc8dc2080fe6a7340100d24b6c239f19a5dd2cbe3eeb3", checked := Try.checked }
namespace Rows
def none {H : Type} : Left H := { results := [], args := [] }

/-- 'zzlaws_quota_b1.FnHardFieldParsesBack': WHATEVER THE INPUT: true; the input reads as it did. -/
def fnHardFieldParsesBackSpec : ChangeSpec := { name := "fnHardFieldParsesBack", fn := fun _ => fun
  | [d] => { results := [.lit (.bool true)], args := [d] }
  | _ => none }
def fnHardFieldParsesBackRow : OpenClaim := { program := "qxb6603517a", sum := "795df5db710e4e22571fc8dc2080fe6a7340100d24b6c239f19a5dd2cbe3eeb3", func := "example.com/budget/budget/zzlaws_quota_b1.FnHardFieldParsesBack", spec := "fnHardFieldParsesBack", apart := false }
def FnHardFieldParsesBackSaid : Prop := fnHardFieldParsesBackRow.holds Try.pinned (OpenSpec.ofChange fnHardFieldParsesBackSpec)

/-- ITS FALSE NEIGHBOUR: 'it returns false'. Refute it at one input. -/
def fnHardFieldParsesBackWrong : ChangeSpec := { name := "fnHardFieldParsesBack", fn := fun _ => fun
  | [d] => { results := [.lit (.bool false)], args := [d] }
  | _ => none }
def FnHardFieldParsesBackWrongFalsely : Prop := fnHardFieldParsesBackRow.holds Try.pinned (OpenSpec.ofChange fnHardFieldParsesBackWrong)

/-- 'zzlaws_quota_b1.FnHardFieldSplicesAndSeparates': WHATEVER THE INPUT: true; the input reads as it did. -/
def fnHardFieldSplicesAndSeparatesSpec : ChangeSpec := { name := "fnHardFieldSplicesAndSeparates", fn := fun _ => fun
  | [d1, d2] => { results := [.lit (.bool true)], args := [d1, d2] }
  | _ => none }
def fnHardFieldSplicesAndSeparatesRow : OpenClaim := { program := "qxb6603517a", sum := "795df5db710e4e22571fc8dc2080fe6a7340100d24b6c239f19a5dd2cbe3eeb3", func := "example.com/budget/budget/zzlaws_quota_b1.FnHardFieldSplicesAndSeparates", spec := "fnHardFieldSplicesAndSeparates", apart := false }
def FnHardFieldSplicesAndSeparatesSaid : Prop := fnHardFieldSplicesAndSeparatesRow.holds Try.pinned (OpenSpec.ofChange fnHardFieldSplicesAndSeparatesSpec)

/-- ITS FALSE NEIGHBOUR: 'it returns false'. Refute it at one input. -/
def fnHardFieldSplicesAndSeparatesWrong : ChangeSpec := { name := "fnHardFieldSplicesAndSeparates", fn := fun _ => fun
  | [d1, d2] => { results := [.lit (.bool false)], args := [d1, d2] }
  | _ => none }
def FnHardFieldSplicesAndSeparatesWrongFalsely : Prop := fnHardFieldSplicesAndSeparatesRow.holds Try.pinned (OpenSpec.ofChange fnHardFieldSplicesAndSeparatesWrong)

end Rows
end Go.Proofs.Qxb6603517a
