/-
  THE WALK of the law FnWrittenEqualExactlyForSameTxnAndItem (function 3): it returns true, at every input, wherever the library's table of powers of ten reads as it should.
-/
import Derived.Test.Qxb6603542aDoorWritten
namespace Go.Proofs.Qxb6603542aDoor
open Go.RowKit Go.Sort

set_option maxHeartbeats 400000 in
theorem law_any (l : ByteArray) (t1 m1 : Int) (i1 : ByteArray) (t2 m2 : Int) (i2 : ByteArray) (w : World)
    (a0 : -9223372036854775808 ≤ t1) (a1 : t1 ≤ 9223372036854775807) (b0 : -9223372036854775808 ≤ t2) (b1 : t2 ≤ 9223372036854775807)
    (wl : l.size ≤ maxLen) (w1 : i1.size ≤ maxLen) (w2 : i2.size ≤ maxLen) (ht : Tab w) :
    Calls Tryd.prog 3 #[.string l, .int .i64 t1, .int .i64 m1, .string i1, .int .i64 t2, .int .i64 m2, .string i2] w fun e w' => e = .returned (.bool true) ∧ Below w.heap.size w w' := by
  unfold maxLen at wl w1 w2
  by_cases hq : t1 = t2
  · have hd : (t1 == t2) = true := by simpa using hq
    have e : ((wr l t1 i1).toList == (wr l t2 i2).toList) = (i1.toList == i2.toList) := by rw [wr_eq, hd, Bool.true_and]
    clear hq
    go_enter Tryd.func3, Tryd.ntmps3
    go_wp2_with (first
      | (go_at_call_of 5 (Value.int .i64 t1); refine (lock_any l t1 m1 i1 a0 a1 ?_ ?_ _ ?_).mono ?_; omega; omega; exact ht; rintro e w1 ⟨rfl, hb1⟩)
      | (go_at_call_of 5 (Value.int .i64 t2); refine (lock_any l t2 m2 i2 b0 b1 ?_ ?_ _ ?_).mono ?_; omega; omega; exact ht.on hb1; rintro e w2 ⟨rfl, hb2⟩)
      | go_in)
    all_goals (try (go_ret; exact ⟨rfl, Below.refl _ _⟩))
    all_goals (go_ret; exact ⟨rfl, hb1.trans (hb2.mono hb1.size)⟩)
  · have hd : (t1 == t2) = false := by simpa using hq
    have e : ((wr l t1 i1).toList == (wr l t2 i2).toList) = false := by rw [wr_eq, hd, Bool.false_and]
    clear hq
    go_enter Tryd.func3, Tryd.ntmps3
    go_wp2_with (first
      | (go_at_call_of 5 (Value.int .i64 t1); refine (lock_any l t1 m1 i1 a0 a1 ?_ ?_ _ ?_).mono ?_; omega; omega; exact ht; rintro e w1 ⟨rfl, hb1⟩)
      | (go_at_call_of 5 (Value.int .i64 t2); refine (lock_any l t2 m2 i2 b0 b1 ?_ ?_ _ ?_).mono ?_; omega; omega; exact ht.on hb1; rintro e w2 ⟨rfl, hb2⟩)
      | go_in)
    all_goals (try (go_ret; exact ⟨rfl, Below.refl _ _⟩))
    all_goals (go_ret; exact ⟨rfl, hb1.trans (hb2.mono hb1.size)⟩)
end Go.Proofs.Qxb6603542aDoor
