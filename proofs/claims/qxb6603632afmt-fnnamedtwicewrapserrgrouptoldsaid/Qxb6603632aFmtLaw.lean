/-
  THE WALK of the law FnNamedTwiceWrapsErrGroup (function 3): it returns true at every string, wherever the two sentinels lie as two different errors of errors.New's make.
-/
import Derived.Test.Qxb6603632aFmtTwice
import Derived.Test.Qxb6603632aFmtIs
import Derived.Deep.RegionWith
namespace Go.Proofs.Qxb6603632aFmt
open Go.RowKit Go.Extern.Stop Go.Stop Go.Extern

theorem lt_of_heap {w : World} {k : Nat} {x : Obj} (h : w.heap[k]? = some x) : k < w.heap.size := by
  rcases Nat.lt_or_ge k w.heap.size with h' | h'
  · exact h'
  · simp [Array.getElem?_eq_none h'] at h

set_option maxHeartbeats 400000 in
theorem law_any (m : ByteArray) (a0 a1 : Addr) (s0 : ByteArray) (c0 c1 : Array Value) (t0 t1 : TypeId) (w : World) (wm : m.size ≤ maxLen)
    (hg0 : w.cell? ⟨0, 0, none⟩ = some (.iface 83 (.pointer (some a0)))) (hg1 : w.cell? ⟨1, 0, none⟩ = some (.iface 83 (.pointer (some a1)))) (hs0 : w.cell? a0 = some (.string s0)) (hne : a0 ≠ a1)
    (hb0 : w.heap[a0.block]? = some (.cells c0 t0 (0, 0))) (hb1 : w.heap[a1.block]? = some (.cells c1 t1 (0, 0))) (hz : 1 < w.heap.size) :
    Calls Tryf.prog 3 #[.string m] w fun e w' => e = .returned (.bool true) ∧ Below w.heap.size w w' := by
  unfold maxLen at wm
  have B0 : Hid (w.heap[a0.block]? = some (.cells c0 t0 (0, 0))) := hb0
  have B1 : Hid (w.heap[a1.block]? = some (.cells c1 t1 (0, 0))) := hb1
  clear hb0 hb1
  go_enter Tryf.func3, Tryf.ntmps3
  go_wp2_with (first
    | (go_at_call 7; refine (zzTwice_any m a0 s0 _ hg0 hs0).mono ?_; rintro e w1 ⟨rfl, hb, hc⟩; have k0 := (hb.cell (p := ⟨0, 0, none⟩) (by show 0 < w.heap.size; omega)).trans hg0; have k1 := (hb.cell (p := ⟨1, 0, none⟩) hz).trans hg1)
    | (go_at_call_of 8 (Value.iface 83 (.pointer (some a0))); refine (is_wrap_same _ 0 a0 _ ?_).mono ?_; exact hc; rintro e w2 ⟨rfl, rfl⟩)
    | (go_at_call_of 8 (Value.iface 83 (.pointer (some a1))); refine (is_wrap_other _ 0 a1 a0 c0 c1 t0 t1 _ ?_ hne ?_ ?_).mono ?_; exact hc; exact (hb.block _ (lt_of_heap B0.out)).trans B0.out; exact (hb.block _ (lt_of_heap B1.out)).trans B1.out; rintro e w2 ⟨rfl, rfl⟩)
    | go_in)
  all_goals (try (go_ret; exact ⟨rfl, Below.refl _ _⟩))
  all_goals (go_ret; exact ⟨rfl, hb⟩)
end Go.Proofs.Qxb6603632aFmt
