/-
  THE CONTRACTS of (Lock).written (function 6) and ZZLockWritten (function 5) over the shelf's contract of strconv.Itoa (function 7): they hand back 'wr l t i'; nothing old has turned. 'Tab w': the library's table of powers of ten reads as its initialiser lays it.
-/
import Derived.Test.Qxb6603542aDoorRows
import Derived.Test.Qxb6603542aDoorShelf
import Derived.Test.Qxb6603542aDoorPlain
import Derived.Lib.AppendIntMem
import Derived.Lib.ItoaLen
import Derived.WalkKit
import Derived.ProofKit
import Derived.WalkSpells
import Derived.Deep.RegionWith
namespace Go.Proofs.Qxb6603542aDoor
open Go.RowKit Go.Sort

/-- The table's name, as the row's own cell spells it. -/
def pow10 : String := Rows.fnWrittenEqualExactlyForSameTxnAndItemRow.named.headD default
def Tab (w : World) : Prop := Lib.TabIs Tryd.prog w pow10 .u64 Lib.pow10Tab
theorem Tab.on {w w' : World} (h : Tab w) (hb : Below w.heap.size w w') : Tab w' := Lib.tabBelow_of_tabIs h w' hb

theorem itoa_any (n : Int) (h0 : -9223372036854775808 ≤ n) (h1 : n ≤ 9223372036854775807) (w : World) (ht : Tab w) :
    Calls Tryd.prog 7 #[.int .i64 n] w fun e w' => e = .returned (.string { data := (Lib.itoa n).toArray }) ∧ Below w.heap.size w w' :=
  have h : Calls Tryd.prog 7 #[.int .i64 n] w fun e w' => e = .returned (.string { data := (Lib.itoa n).toArray }) ∧ ∃ k os, w' = grow (w.drewN k) os := Any.strconv_Itoa Tryd.laysM171 n h0 h1 w ht
  h.mono fun _ _ ⟨he, k, os, hw⟩ => ⟨he, by rw [hw]; exact Lib.below_grow _ _ (Nat.le_refl _) k os⟩

set_option maxHeartbeats 400000 in
theorem written_any (l : ByteArray) (t m : Int) (i : ByteArray) (h0 : -9223372036854775808 ≤ t) (h1 : t ≤ 9223372036854775807) (hl : l.size ≤ 65536) (hi : i.size ≤ 65536) (w : World) (ht : Tab w) :
    Calls Tryd.prog 6 #[.agg #[.int .i64 t, .int .i64 m, .string i], .string l] w fun e w' => e = .returned (.string (wr l t i)) ∧ Below w.heap.size w w' := by
  have hz := Lib.itoa_length_le t h0 h1
  go_enter Tryd.func6, Tryd.ntmps6
  go_wp2
  go_region_with (go_at_call 7; refine (itoa_any _ h0 h1 _ ?_).mono ?_; exact ht.on (((Below.refl _ w).alloc (Nat.le_refl _) _).drew); rintro e w1 ⟨rfl, hb⟩; have hc : w1.cell? ⟨w.heap.size, 2, none⟩ = some (.string i) := (hb.cell (p := ⟨w.heap.size, 2, none⟩) (by simp)).trans (by go_simp))
  all_goals (try go_wp2)
  all_goals (go_ret; exact ⟨rfl, (((Below.refl _ w).alloc (Nat.le_refl _) _).drew).trans (hb.mono (by simp))⟩)

set_option maxHeartbeats 400000 in
theorem lock_any (l : ByteArray) (t m : Int) (i : ByteArray) (h0 : -9223372036854775808 ≤ t) (h1 : t ≤ 9223372036854775807) (hl : l.size ≤ 65536) (hi : i.size ≤ 65536) (w : World) (ht : Tab w) :
    Calls Tryd.prog 5 #[.agg #[.int .i64 t, .int .i64 m, .string i], .string l] w fun e w' => e = .returned (.string (wr l t i)) ∧ Below w.heap.size w w' := by
  go_enter Tryd.func5, Tryd.ntmps5
  go_wp2_with (go_at_call 6; refine (written_any _ _ _ _ h0 h1 hl hi _ ?_).mono ?_; exact ht.on ((Below.refl _ w).alloc (Nat.le_refl _) _); rintro e w1 ⟨rfl, hb⟩)
  go_ret
  exact ⟨rfl, ((Below.refl _ w).alloc (Nat.le_refl _) _).trans (hb.mono (by simp))⟩
end Go.Proofs.Qxb6603542aDoor
