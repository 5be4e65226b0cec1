/-
  SHARED BY BOTH CLAIMS OF THIS SEAT: the plain functions 'uc', 'mc' that token.UnknownClaim (function 8), token.MissingClaim (function 10) compute, their plain laws, and the contracts of functions 8, 10, 11 (zzIsFixedReason), 7 (zzSplitReason).
-/
import Derived.Test.Qxb6603645aRows
import Derived.WalkKit
import Derived.ProofKit
import Derived.WalkSpells
namespace Go.Proofs.Qxb6603645a
open Go.RowKit

/-! ### THE PLAIN LAWS: no Go in sight -/

/-- The fourteen bytes 'unknown-claim:', then the name. -/
def uc (s : ByteArray) : ByteArray := { data := #[117, 110, 107, 110, 111, 119, 110, 45, 99, 108, 97, 105, 109, 58] } ++ s
/-- The fourteen bytes 'missing-claim:', then the name. -/
def mc (s : ByteArray) : ByteArray := { data := #[109, 105, 115, 115, 105, 110, 103, 45, 99, 108, 97, 105, 109, 58] } ++ s

theorem uc_size (s : ByteArray) : (uc s).size = s.size + 14 := by
  unfold uc
  simp only [ByteArray.size_append]
  show 14 + s.size = _
  omega
theorem mc_size (s : ByteArray) : (mc s).size = s.size + 14 := by
  unfold mc
  simp only [ByteArray.size_append]
  show 14 + s.size = _
  omega
theorem uc_list (s : ByteArray) : (uc s).toList = [117, 110, 107, 110, 111, 119, 110, 45, 99, 108, 97, 105, 109, 58] ++ s.toList := by
  rw [ByteArray.toList_eq, ByteArray.toList_eq]
  unfold uc
  simp [ByteArray.data_append]
theorem mc_list (s : ByteArray) : (mc s).toList = [109, 105, 115, 115, 105, 110, 103, 45, 99, 108, 97, 105, 109, 58] ++ s.toList := by
  rw [ByteArray.toList_eq, ByteArray.toList_eq]
  unfold mc
  simp [ByteArray.data_append]
theorem uc_eq (a b : ByteArray) : ((uc a).toList == (uc b).toList) = (a.toList == b.toList) := by
  rw [uc_list, uc_list, Bool.eq_iff_iff]
  simp
theorem uc_mc (a b : ByteArray) : ((uc a).toList == (mc b).toList) = false := by
  rw [uc_list, mc_list]
  simp
theorem uc_ne (s : ByteArray) (l : List UInt8) (h : l.take 14 ≠ [117, 110, 107, 110, 111, 119, 110, 45, 99, 108, 97, 105, 109, 58]) : ((uc s).toList == l) = false := by
  rw [uc_list, beq_eq_false_iff_ne]
  intro e
  apply h
  rw [← e]
  simp
theorem uc_get (s : ByteArray) (k : Nat) (h : k < 14) (h' : k < (uc s).size) : ((uc s)[k]'h').toNat = (([117, 110, 107, 110, 111, 119, 110, 45, 99, 108, 97, 105, 109, 58] : List UInt8)[k]'h).toNat := by
  have e : (uc s).data.toList[k]? = ([117, 110, 107, 110, 111, 119, 110, 45, 99, 108, 97, 105, 109, 58] : List UInt8)[k]? := by
    rw [← ByteArray.toList_eq, uc_list, List.getElem?_append_left h]
  have e2 : (uc s).data.toList[k]? = some ((uc s)[k]'h') := by
    rw [List.getElem?_eq_getElem (by simpa using h')]
    rfl
  rw [e2, List.getElem?_eq_getElem h] at e
  injection e with e
  rw [e]
theorem no_colon : ∀ (k : Nat) (h : k < 13), (([117, 110, 107, 110, 111, 119, 110, 45, 99, 108, 97, 105, 109, 58] : List UInt8)[k]'(Nat.lt_succ_of_lt h)).toNat ≠ 58 := by decide
theorem uc_head (s : ByteArray) : (((uc s).extract 0 13).toList == [117, 110, 107, 110, 111, 119, 110, 45, 99, 108, 97, 105, 109]) = true := by
  rw [beq_iff_eq, ByteArray.toList_eq, ByteArray.data_extract, Array.toList_extract, ← ByteArray.toList_eq, uc_list]
  simp [List.extract]
theorem uc_rest (s : ByteArray) : (((uc s).extract 14 (uc s).size).toList == s.toList) = true := by
  rw [beq_iff_eq, uc_size, ByteArray.toList_eq, ByteArray.data_extract, Array.toList_extract, ← ByteArray.toList_eq, uc_list, ByteArray.toList_eq]
  have z : s.size = s.data.toList.length := by simp
  simp [List.extract]
  rw [z, List.take_length]

/-! ### THE CONTRACTS -/
theorem unknown_any (s : ByteArray) (w : World) (h : s.size ≤ 2097152) :
    Calls Try.prog 8 #[.string s] w fun e w' => e = .returned (.string (uc s)) ∧ w' = w := by
  go_enter Try.func8, Try.ntmps8
  go_wp2
  go_ret
  exact ⟨rfl, rfl⟩
theorem missing_any (s : ByteArray) (w : World) (h : s.size ≤ 2097152) :
    Calls Try.prog 10 #[.string s] w fun e w' => e = .returned (.string (mc s)) ∧ w' = w := by
  go_enter Try.func10, Try.ntmps10
  go_wp2
  go_ret
  exact ⟨rfl, rfl⟩
set_option maxHeartbeats 400000 in
theorem fixed_any (s : ByteArray) (w : World) :
    Calls Try.prog 11 #[.string (uc s)] w fun e w' => e = .returned (.bool false) ∧ w' = w := by
  have f1 := uc_ne s [109, 97, 108, 102, 111, 114, 109, 101, 100] (by decide)
  have f2 := uc_ne s [117, 110, 115, 117, 112, 112, 111, 114, 116, 101, 100, 45, 97, 108, 103, 111, 114, 105, 116, 104, 109] (by decide)
  have f3 := uc_ne s [117, 110, 116, 114, 117, 115, 116, 101, 100, 45, 105, 115, 115, 117, 101, 114] (by decide)
  have f4 := uc_ne s [109, 105, 115, 115, 105, 110, 103, 45, 107, 105, 100] (by decide)
  have f5 := uc_ne s [107, 101, 121, 115, 45, 117, 110, 97, 118, 97, 105, 108, 97, 98, 108, 101] (by decide)
  have f6 := uc_ne s [117, 110, 107, 110, 111, 119, 110, 45, 107, 101, 121] (by decide)
  have f7 := uc_ne s [119, 101, 97, 107, 45, 107, 101, 121] (by decide)
  have f8 := uc_ne s [98, 97, 100, 45, 115, 105, 103, 110, 97, 116, 117, 114, 101] (by decide)
  have f9 := uc_ne s [110, 111, 116, 45, 121, 101, 116, 45, 118, 97, 108, 105, 100] (by decide)
  have f10 := uc_ne s [101, 120, 112, 105, 114, 101, 100] (by decide)
  have f11 := uc_ne s [108, 105, 102, 101, 116, 105, 109, 101, 45, 116, 111, 111, 45, 108, 111, 110, 103] (by decide)
  have f12 := uc_ne s [119, 114, 111, 110, 103, 45, 97, 117, 100, 105, 101, 110, 99, 101] (by decide)
  have f13 := uc_ne s [98, 97, 100, 45, 115, 99, 111, 112, 101] (by decide)
  go_enter Try.func11, Try.ntmps11
  go_wp2
  go_ret
  exact ⟨rfl, rfl⟩
set_option maxHeartbeats 400000 in
theorem split_any (p : ByteArray) (w : World) (h0 : 14 ≤ p.size) (h1 : p.size ≤ 2097152) (hb : ∀ k (_ : k < 13) (h' : k < p.size), (p[k]'h').toNat ≠ 58) (hl : (p[13]'(by omega)).toNat = 58) :
    Calls Try.prog 7 #[.string p] w fun e w' => e = .returned (.tuple #[.string (p.extract 0 13), .string (p.extract 14 p.size), .bool true]) ∧ Grown w w' := by
  have HB : Hid (∀ k (_ : k < 13) (h' : k < p.size), (p[k]'h').toNat ≠ 58) := hb
  have HL : Hid ((p[13]'(by omega)).toNat = 58) := hl
  clear hb hl
  go_enter Try.func7, Try.ntmps7
  go_wp2
  go_loopw [5] (fun i wr => ∃ k : Nat, k ≤ 13 ∧ i = .int .i64 k ∧ Grown w wr) (fun i _ => 13 - (intOf i).toNat)
  case atStart => exact ⟨0, by omega, rfl, Grown.refl _⟩
  case round =>
    obtain ⟨k, hk, rfl, hg⟩ := hrel
    have hkp : (k : Int) < (p.size : Int) := by omega
    by_cases hlt : k < 13
    · have hkk : (((p[k]'(by omega)).toNat : Int) == 58) = false := by
        have := HB.out k hlt (by omega)
        rw [beq_eq_false_iff_ne]
        omega
      go_wp2
      go_roundw
      case rel => exact ⟨k + 1, by omega, by go_num, hg⟩
      case measure => simp [intOf]; omega
    · obtain rfl : k = 13 := by omega
      have hl := HL.out
      go_wp2
      go_region
      go_wp2
      go_ret3
      exact ⟨rfl, hg.drew⟩
end Go.Proofs.Qxb6603645a
