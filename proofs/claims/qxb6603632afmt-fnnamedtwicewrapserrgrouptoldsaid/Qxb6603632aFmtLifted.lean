/-
  THE ROW of FnNamedTwiceWrapsErrGroup out of its walk, for every answer of fmt's: what 'laid' gives at the two sentinels; the witness starts in the heap that the variables' door's own run leaves.
-/
import Derived.Test.Qxb6603632aFmtLaw
import Derived.ProofKit
import Derived.OpenShut
import Derived.ShutString
import Derived.LaidMore
import Derived.WalkSmall
import Derived.Stop.JoinedAt
import Derived.Stop.JoinedTold
import Derived.Stop.LaidErr
import Derived.Stop.LaidTwo
import Derived.Deep.DeepWitnessRef
namespace Go.Proofs.Qxb6603632aFmt
open Go.ChangeShapes Go.WideShapes Go.ChangeAt Go.RowKit Go.Kit
open Go.Extern.Stop Go.Stop Go.Extern
open Go.ChangeMaps (open_string shut_string)

/-- The two variables' names, as the specification spells them. -/
def nG : String := Rows.fnNamedTwiceWrapsErrGroupSpec.vars.headD default
def nN : String := Rows.fnNamedTwiceWrapsErrGroupSpec.vars.tail.headD default

theorem own : ownKnob Tryf.prog.godebug = none := by kernel_rfl
theorem gG : Tryf.prog.globalNamed nG = some 0 := by kernel_rfl
theorem gN : Tryf.prog.globalNamed nN = some 1 := by kernel_rfl
theorem gGType : (Tryf.prog.globals[0]?).map (·.type) = some 24 := by kernel_rfl
theorem gNType : (Tryf.prog.globals[1]?).map (·.type) = some 24 := by kernel_rfl
theorem cells85 : Tryf.prog.cellsOf 85 = 1 := by kernel_rfl
theorem cells9 : Tryf.prog.cellsOf 9 = 1 := by kernel_rfl
def sig : String := String.ofList [Char.ofNat 42]
theorem star : sig ++ "errors.errorString" = starName := by decide
theorem row83 (u : TypeId) (h : Tryf.prog.typeName? 3 u = some starName) : u = 83 := by
  refine typeName_ptr_named (nm := "errors.errorString") (by kernel_rfl) (by kernel_rfl) (by decide) u (h.trans (congrArg some star.symm))

/-- The door's own heap meets the condition. -/
theorem door_met (os : Os) (args : Array Value) : laidMetH Tryf.prog Rows.fnNamedTwiceWrapsErrGroupRow.laid ((World.doorLaid Tryf.prog 400 os).forCall (fun _ _ => 0) ⟨#[], args, []⟩).memory :=
  laidMetH_of_parts3 (fuel := 8) (laidMet_of_run' 8 (by kernel_rfl) (by kernel_rfl)) (by kernel_rfl) (by kernel_rfl)

set_option maxRecDepth 100000 in
theorem lifted (os : Os) (started : os.Started) (H : Type) (enc : TypeId × Value → H) :
    ReturnsInTold none {} Tryf.checked os 3 .any Input.okWide ((OpenSpec.ofChange Rows.fnNamedTwiceWrapsErrGroupSpec).preRow enc Tryf.prog Tryf.f3 [] false Rows.fnNamedTwiceWrapsErrGroupRow.laid) (fun F => ((OpenSpec.ofChange Rows.fnNamedTwiceWrapsErrGroupSpec).at F).post enc Tryf.prog Tryf.f3 false true false false) (aloneAtReturn Tryf.prog) nothingAlways := by
  refine returnsInTold_of_row (C := Tryf.checked) (s := OpenSpec.ofChange Rows.fnNamedTwiceWrapsErrGroupSpec) (by kernel_rfl) own started (by kernel_rfl) Tryf.func3
    (OpenSpec.witness_stopped_atRef (enc := enc) (C := Tryf.checked) false (World.doorLaid Tryf.prog 400 os) #[.string ByteArray.empty] rfl (by kernel_rfl) (by kernel_rfl) (by kernel_rfl)
      (OpenSpec.preRow_of_B rfl 8 (by kernel_rfl) (by kernel_rfl) (door_met os _))) ?_
  intro F W base args ds gs before _ _ hval0 hW _ _ _ hL0 _
  have hval : ∀ (j : Nat) t v, Tryf.f3.params[j]? = some t → args[j]? = some v → Value.okWide Tryf.prog W .any base t v := hval0
  have hL : laidMet Tryf.prog Rows.fnNamedTwiceWrapsErrGroupRow.laid W := by
    rw [MakeChecks.laidMetH_plain _ _ _ (by kernel_rfl)] at hL0
    exact hL0
  have hW' := hW
  obtain ⟨p, q, hA0, hV0, rfl, hfz, hnd⟩ := hW
  have hA : DataW.TrodAll enc Tryf.prog W 0 (fun _ => true) true Tryf.f3.params.toList args.toList ds p := hA0
  have hV : DataW.TrodVars enc Tryf.prog W (fun _ => true) [nG, nN] gs q := hV0
  rw [Tryf.params3] at hA hval
  obtain ⟨v0, d0, rfl, rfl, h0⟩ := trodAll_one hA
  obtain ⟨m, rfl, rfl, rfl, wm⟩ := open_string Tryf.underlying9 (hval 0 9 v0 rfl rfl) h0
  obtain ⟨a0, a1, s0, s1, c0, c1, t0, t1, hv0, hv1, hc0, hs0, hz0, hc1, hs1, hz1, hne, hb0, hb1⟩ := laid_sentinels2 (n0 := nG) (n1 := nN) (nm := starName) hL gG gGType gN gNType Tryf.underlying24 row83 Tryf.underlying83 Tryf.underlying85 rfl rfl Tryf.underlying9 cells85 cells9
  have vr : ∀ {X : World}, X.var? Tryf.prog nG = some #[.iface 83 (.pointer (some a0))] → X.var? Tryf.prog nN = some #[.iface 83 (.pointer (some a1))] → ∀ sp : Nat → Bool,
      DataW.TrodVars enc Tryf.prog X sp [nG, nN] [tok enc (.iface 83 (.pointer (some a0))), tok enc (.iface 83 (.pointer (some a1)))] [.cell 0 0, .cell 1 0] :=
    fun x0 x1 sp => vars_read2 enc gG gGType Tryf.underlying24 x0 trivial gN gNType Tryf.underlying24 x1 trivial sp
  obtain ⟨rfl, rfl⟩ := hV.unique (vr hv0 hv1 _)
  clear hA0 hV0 hval0 hL0
  have hg0 : W.cell? ⟨0, 0, none⟩ = some (.iface 83 (.pointer (some a0))) := by simpa using World.var?_cell gG hv0 0
  have hg1 : W.cell? ⟨1, 0, none⟩ = some (.iface 83 (.pointer (some a1))) := by simpa using World.var?_cell gN hv1 0
  refine (law_any m a0 a1 s0 c0 c1 t0 t1 W wm hg0 hg1 hc0 hne hb0 hb1 (World.block_lt_of_cell? _ _ hg1)).mono ?_
  rintro e W' ⟨rfl, hb⟩
  have e1 : ((OpenSpec.ofChange Rows.fnNamedTwiceWrapsErrGroupSpec).at F.told).fn H ([.lit (.string m.data.toList)] ++ [tok enc (.iface 83 (.pointer (some a0))), tok enc (.iface 83 (.pointer (some a1)))]) = { results := [.lit (.bool true)], args := [.lit (.string m.data.toList)], vars := [tok enc (.iface 83 (.pointer (some a0))), tok enc (.iface 83 (.pointer (some a1)))] } := rfl
  refine ⟨_, rfl, _, _, _, [], [], [.cell 0 0, .cell 1 0], hW', ?_, ?_, ?_, hb.frame _, fun h => by cases h⟩
  · rw [e1]; exact trodAll_mk1 (shut_bool Tryf.underlying4 _)
  · rw [e1]; exact trodAll_mk1 (shut_string Tryf.underlying9 wm)
  · rw [e1]; exact vr (var?_below hb gG (World.block_lt_of_cell? _ _ hg0) hv0) (var?_below hb gN (World.block_lt_of_cell? _ _ hg1) hv1) _
end Go.Proofs.Qxb6603632aFmt
