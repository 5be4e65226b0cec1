/-
  SHARED BY BOTH CLAIMS OF THIS SEAT: the plain function 'hf' that quota.hardField computes, its plain laws, and the contract of quota.ZZHardField (function 6, which calls function 9).
-/
import Derived.Test.Qxb6603517aRows
import Derived.WalkKit
import Derived.ProofKit
import Derived.WalkSpells
namespace Go.Proofs.Qxb6603517a
open Go.RowKit

/-! ### THE PLAIN LAWS: no Go in sight -/

/-- The ten bytes of the head, the name, a closing bracket. -/
def hf (s : ByteArray) : ByteArray := ({ data := #[115, 112, 101, 99, 46, 104, 97, 114, 100, 91] } ++ s) ++ { data := #[93] }

theorem hf_size (s : ByteArray) : (hf s).size = s.size + 11 := by
  unfold hf
  simp only [ByteArray.size_append]
  show 10 + s.size + 1 = _
  omega

theorem hf_data (s : ByteArray) : (hf s).data.toList = [115, 112, 101, 99, 46, 104, 97, 114, 100, 91] ++ s.data.toList ++ [93] := by
  unfold hf
  simp [ByteArray.data_append]

theorem hf_eq (a b : ByteArray) : ((hf a).toList == (hf b).toList) = (a.toList == b.toList) := by
  rw [ByteArray.toList_eq, ByteArray.toList_eq, ByteArray.toList_eq, ByteArray.toList_eq, hf_data, hf_data, Bool.eq_iff_iff]
  simp

theorem hf_splice (a b : ByteArray) (n m : Nat) (hn : n = a.size + 10) (hm : m = a.size + 11) : ((hf (a ++ b)).toList == ((hf a).extract 0 n ++ b ++ (hf a).extract n m).toList) = true := by
  subst hn hm
  rw [ByteArray.toList_eq, ByteArray.toList_eq, beq_iff_eq, hf_data]
  have hd : (hf a).data.toList = (([115, 112, 101, 99, 46, 104, 97, 114, 100, 91] : List UInt8) ++ a.data.toList) ++ [93] := hf_data a
  have hk : ∀ n : Nat, n = (([115, 112, 101, 99, 46, 104, 97, 114, 100, 91] : List UInt8) ++ a.data.toList).length → (hf a).data.toList.take n = ([115, 112, 101, 99, 46, 104, 97, 114, 100, 91] : List UInt8) ++ a.data.toList ∧ (hf a).data.toList.drop n = [93] := by
    intro n hn
    rw [hd, hn]
    exact ⟨List.take_left, List.drop_left⟩
  obtain ⟨h1, h2⟩ := hk (a.size + 10) (by simp)
  simp only [ByteArray.data_append, ByteArray.data_extract, Array.toList_append, Array.toList_extract]
  simp [List.extract, h1, h2]

/-! ### THE CONTRACT OF quota.ZZHardField -/
theorem hard_any (s : ByteArray) (w : World) (h : s.size ≤ 2097152) :
    Calls Try.prog 6 #[.string s] w fun e w' => e = .returned (.string (hf s)) ∧ w' = w := by
  go_enter Try.func6, Try.ntmps6
  go_wp2
  go_ret
  exact ⟨rfl, rfl⟩

end Go.Proofs.Qxb6603517a
