/-
  FOR 'Rows.FnHardFieldParsesBackSaid': the plain laws on reading a path back, and the contract of zzParseHardField (function 7) at a path that is as it should be.
-/
import Derived.Test.Qxb6603517aHard
namespace Go.Proofs.Qxb6603517a
open Go.RowKit

/-! ### THE PLAIN LAWS: no Go in sight -/
theorem hf_head (s : ByteArray) (k : Nat) (h : k < 10) (h' : k < (hf s).size) : ((hf s)[k]'h').toNat = (({ data := #[115, 112, 101, 99, 46, 104, 97, 114, 100, 91] } : ByteArray)[k]'h).toNat := by
  have e : (hf s).data.toList[k]? = ([115, 112, 101, 99, 46, 104, 97, 114, 100, 91] : List UInt8)[k]? := by
    rw [hf_data, List.append_assoc, List.getElem?_append_left h]
  have e2 : (hf s).data.toList[k]? = some ((hf s)[k]'h') := by
    rw [List.getElem?_eq_getElem (by simpa using h')]
    rfl
  have e3 : ([115, 112, 101, 99, 46, 104, 97, 114, 100, 91] : List UInt8)[k]? = some (({ data := #[115, 112, 101, 99, 46, 104, 97, 114, 100, 91] } : ByteArray)[k]'h) := by
    rw [List.getElem?_eq_getElem h]
    rfl
  rw [e2, e3] at e
  injection e with e
  rw [e]

theorem hf_last (s : ByteArray) (h : (hf s).size - 1 < (hf s).size) : ((hf s)[(hf s).size - 1]'h).toNat = 93 := by
  have z := hf_size s
  have e : (hf s).data.toList[(hf s).size - 1]? = some 93 := by
    rw [hf_data, z]
    simp
  have e2 : (hf s).data.toList[(hf s).size - 1]? = some ((hf s)[(hf s).size - 1]'h) := by
    rw [List.getElem?_eq_getElem (by simpa using h)]
    rfl
  rw [e2] at e
  injection e with e
  rw [e]
  rfl

theorem hf_back (s : ByteArray) : (((hf s).extract 10 ((hf s).size - 1)).toList == s.toList) = true := by
  have z := hf_size s
  rw [ByteArray.toList_eq, ByteArray.toList_eq, beq_iff_eq, ByteArray.data_extract, Array.toList_extract, hf_data, z]
  simp [List.extract]

/-! ### THE CONTRACT OF zzParseHardField -/
set_option maxHeartbeats 400000 in
theorem parse_any (p : ByteArray) (w : World) (h0 : 11 ≤ p.size) (h1 : p.size ≤ 2097152) (hb : ∀ k (h : k < 10) (h' : k < p.size), (p[k]'h').toNat = (({ data := #[115, 112, 101, 99, 46, 104, 97, 114, 100, 91] } : ByteArray)[k]'h).toNat) (hl : (p[p.size - 1]'(by omega)).toNat = 93) :
    Calls Try.prog 7 #[.string p] w fun e w' => e = .returned (.tuple #[.string (p.extract 10 (p.size - 1)), .bool true]) ∧ Grown w w' := by
  have HB : Hid (∀ k (h : k < 10) (h' : k < p.size), (p[k]'h').toNat = (({ data := #[115, 112, 101, 99, 46, 104, 97, 114, 100, 91] } : ByteArray)[k]'h).toNat) := hb
  clear hb
  go_enter Try.func7, Try.ntmps7
  go_wp2
  go_loopw [4] (fun i wr => ∃ k : Nat, k ≤ 10 ∧ i = .int .i64 k ∧ Grown w wr) (fun i _ => 10 - (intOf i).toNat)
  case atStart => exact ⟨0, by omega, rfl, Grown.refl _⟩
  case round =>
    obtain ⟨k, hk, rfl, hg⟩ := hrel
    by_cases hlt : k < 10
    · have hkk := HB.out k hlt (by omega)
      have hkp : (k : Int) < (p.size : Int) := by omega
      go_wp2
      go_region
      go_wp2
      go_roundw
      case rel => exact ⟨k + 1, by omega, by go_num, hg.drew⟩
      case measure => simp [intOf]; omega
    · go_wp2
      go_ret2
      exact ⟨rfl, hg⟩
end Go.Proofs.Qxb6603517a
