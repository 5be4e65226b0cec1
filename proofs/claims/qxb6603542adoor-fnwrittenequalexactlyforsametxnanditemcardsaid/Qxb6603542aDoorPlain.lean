/-
  THE PLAIN LAWS, no Go in sight: a decimal numeral (Lib.itoa) holds no opening bracket and tells its number; so the text letter, numeral, opening bracket, item, closing bracket tells number and item.
-/
import Derived.Lib.ItoaNum
import Derived.Laws.Strings
import Derived.Laws.Concat
namespace Go.Proofs.Qxb6603542aDoor
open Go

theorem dig_nat (d : Nat) (h : d < 10) : (UInt8.ofNat (48 + d)).toNat = 48 + d := by
  simp
  omega

theorem dec_range (u : Nat) : ∀ c ∈ Lib.decDigits u, 48 ≤ c.toNat ∧ c.toNat ≤ 57 := by
  induction u using Nat.strongRecOn with
  | ind u ih =>
    intro c hc
    rw [Lib.decDigits] at hc
    split at hc
    · rename_i h
      simp only [List.mem_singleton] at hc
      rw [hc, dig_nat u h]
      omega
    · rename_i h
      rw [List.mem_append] at hc
      rcases hc with hc | hc
      · exact ih (u / 10) (by omega) c hc
      · simp only [List.mem_singleton] at hc
        rw [hc, dig_nat (u % 10) (by omega)]
        omega

def val (l : List UInt8) : Nat := l.foldl (fun a c => a * 10 + (c.toNat - 48)) 0

theorem val_dec (u : Nat) : val (Lib.decDigits u) = u := by
  induction u using Nat.strongRecOn with
  | ind u ih =>
    rw [Lib.decDigits]
    split
    · rename_i h
      have := dig_nat u h
      simp only [val, List.foldl_cons, List.foldl_nil]
      omega
    · rename_i h
      have h1 := ih (u / 10) (by omega)
      have h2 := dig_nat (u % 10) (by omega)
      unfold val at h1 ⊢
      rw [List.foldl_append, h1]
      simp only [List.foldl_cons, List.foldl_nil]
      omega

theorem dec_inj {a b : Nat} (h : Lib.decDigits a = Lib.decDigits b) : a = b := by
  rw [← val_dec a, ← val_dec b, h]

theorem itoa_inj {a b : Int} (h : Lib.itoa a = Lib.itoa b) : a = b := by
  unfold Lib.itoa at h
  split at h <;> split at h
  · have := dec_inj (List.cons.inj h).2
    omega
  · have := dec_range b.toNat 45 (by rw [← h]; simp)
    simp at this
  · have := dec_range a.toNat 45 (by rw [h]; simp)
    simp at this
  · have := dec_inj h
    omega

theorem itoa_no (n : Int) : ∀ c ∈ Lib.itoa n, c ≠ 40 := by
  intro c hc e
  subst e
  unfold Lib.itoa at hc
  split at hc
  · rcases List.mem_cons.1 hc with hc | hc
    · exact absurd hc (by decide)
    · have := dec_range _ _ hc
      simp at this
  · have := dec_range _ _ hc
    simp at this

/-- Two lists without x, each with x behind it: where the wholes are one, the parts are. -/
theorem cut_inj {x : UInt8} : ∀ {l m r s : List UInt8}, (∀ c ∈ l, c ≠ x) → (∀ c ∈ m, c ≠ x) → l ++ x :: r = m ++ x :: s → l = m ∧ r = s
  | [], [], _, _, _, _, h => ⟨rfl, (List.cons.inj h).2⟩
  | [], c :: m, _, _, _, hm, h => absurd (List.cons.inj h).1.symm (hm c (by simp))
  | c :: l, [], _, _, hl, _, h => absurd (List.cons.inj h).1 (hl c (by simp))
  | c :: l, d :: m, r, s, hl, hm, h => by
    obtain ⟨h1, h2⟩ := List.cons.inj h
    obtain ⟨h3, h4⟩ := cut_inj (fun c hc => hl c (by simp [hc])) (fun c hc => hm c (by simp [hc])) h2
    exact ⟨by rw [h1, h3], h4⟩

/-- What (Lock).written writes: the letter, the number, the item in brackets. -/
def wr (l : ByteArray) (t : Int) (i : ByteArray) : ByteArray := (((l ++ { data := (Lib.itoa t).toArray }) ++ { data := #[40] }) ++ i) ++ { data := #[41] }

theorem wr_list (l : ByteArray) (t : Int) (i : ByteArray) : (wr l t i).toList = l.toList ++ (Lib.itoa t ++ 40 :: (i.toList ++ [41])) := by
  rw [ByteArray.toList_eq, ByteArray.toList_eq, ByteArray.toList_eq]
  unfold wr
  simp [ByteArray.data_append]

theorem wr_eq (l : ByteArray) (t1 t2 : Int) (i1 i2 : ByteArray) : ((wr l t1 i1).toList == (wr l t2 i2).toList) = ((t1 == t2) && (i1.toList == i2.toList)) := by
  rw [wr_list, wr_list, Bool.eq_iff_iff]
  simp only [beq_iff_eq, Bool.and_eq_true, List.append_cancel_left_eq]
  constructor
  · intro h
    obtain ⟨h1, h2⟩ := cut_inj (itoa_no t1) (itoa_no t2) h
    exact ⟨itoa_inj h1, List.append_cancel_right h2⟩
  · rintro ⟨rfl, h⟩
    rw [h]
end Go.Proofs.Qxb6603542aDoor
