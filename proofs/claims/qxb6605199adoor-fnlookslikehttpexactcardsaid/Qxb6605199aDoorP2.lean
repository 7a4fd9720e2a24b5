import Derived.Test.Qxb6605199aDoorP1
namespace Go.Proofs.Qxb6605199aDoor
open Go.RowKit Go.Lib

theorem get!_mk (l : List UInt8) (j : Nat) : (⟨l.toArray⟩ : ByteArray).get! j = l.getD j 0 := by
  show l.toArray.getD j default = _
  simp [Array.getD_eq_getD_getElem?, List.getD_eq_getElem?_getD]
  rfl
theorem size_mk (l : List UInt8) : (⟨l.toArray⟩ : ByteArray).size = l.length := by
  show l.toArray.size = _
  simp
/-- What utf8.DecodeRune answers where the first byte is beyond ASCII. -/
theorem dec_big (l : List UInt8) (h0 : 0 < l.length) (hb : 128 ≤ ba l 0) :
    128 ≤ (decodeGo ⟨l.toArray⟩).1 ∧ (decodeGo ⟨l.toArray⟩).1 ≤ 1114111 ∧ 1 ≤ (decodeGo ⟨l.toArray⟩).2 ∧ (decodeGo ⟨l.toArray⟩).2 ≤ l.length ∧
      ((decodeGo ⟨l.toArray⟩).1 = 383 → ba l 0 = 197 ∧ 1 < l.length ∧ ba l 1 = 191 ∧ (decodeGo ⟨l.toArray⟩).2 = 2) ∧
      (ba l 0 = 197 ∧ 1 < l.length ∧ ba l 1 = 191 → (decodeGo ⟨l.toArray⟩).1 = 383) := by
  have c0 := (l.getD 0 0).toNat_lt
  have c1 := (l.getD 1 0).toNat_lt
  have c2 := (l.getD 2 0).toNat_lt
  have c3 := (l.getD 3 0).toNat_lt
  unfold ba at *
  unfold decodeGo
  rw [size_mk, if_neg (by omega)]
  unfold Utf8.decode
  simp only [get!_mk, size_mk, Nat.zero_add]
  generalize (l.getD 0 0).toNat = b0 at *
  generalize (l.getD 1 0).toNat = b1 at *
  generalize (l.getD 2 0).toNat = b2 at *
  generalize (l.getD 3 0).toNat = b3 at *
  rw [if_neg (by omega)]
  split
  · rename_i h
    simp only [Bool.and_eq_true, beq_iff_eq, decide_eq_true_eq] at h
    split <;> simp [Utf8.runeError] <;> omega
  · rename_i h1
    simp only [Bool.and_eq_true, beq_iff_eq, decide_eq_true_eq] at h1
    split
    · rename_i h
      simp only [Bool.and_eq_true, beq_iff_eq, decide_eq_true_eq] at h
      split
      · rename_i h'
        simp only [Bool.and_eq_true, decide_eq_true_eq] at h'
        simp; omega
      · simp [Utf8.runeError]; omega
    · split
      · rename_i h
        simp only [Bool.and_eq_true, beq_iff_eq, decide_eq_true_eq] at h
        split
        · rename_i h'
          simp only [Bool.and_eq_true, decide_eq_true_eq, Utf8.valid, Bool.or_eq_true] at h'
          simp; omega
        · simp [Utf8.runeError]; omega
      · simp [Utf8.runeError]; omega
end Go.Proofs.Qxb6605199aDoor
