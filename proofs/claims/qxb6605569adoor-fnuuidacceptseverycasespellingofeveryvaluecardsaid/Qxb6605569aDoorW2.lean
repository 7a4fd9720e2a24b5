import Derived.Test.Qxb6605569aDoorW1
namespace Go.Proofs.Qxb6605569aDoor
open Go.RowKit Go.Lib

/-- Where the hyphens stand. -/
def isHy (k : Nat) : Prop := k = 8 ∨ k = 13 ∨ k = 18 ∨ k = 23
instance (k : Nat) : Decidable (isHy k) := by unfold isHy; infer_instance
/-- A hex digit in either case. -/
def Hex (z : Int) : Prop := (48 ≤ z ∧ z ≤ 57) ∨ (97 ≤ z ∧ z ≤ 102) ∨ (65 ≤ z ∧ z ≤ 70)
/-- A text of the canonical form. -/
def Canon (s : ByteArray) : Prop := s.size = 36 ∧ ∀ k, (h : k < s.size) → (isHy k → (s[k].toNat : Int) = 45) ∧ (¬ isHy k → Hex (s[k].toNat : Int))

set_option maxHeartbeats 1000000 in
/-- parse.UUID at a text of the canonical form. -/
theorem uuid_ok (s : ByteArray) (w : World) (hc : Canon s) :
    Calls Tryd.prog 6 #[.string s] w fun e w' => e = .returned (.tuple #[.string ⟨(Lib.toLowerA s.data.toList).toArray⟩, .bool true]) ∧ Below w.heap.size w w' := by
  have hlow := Tryd.strings_ToLower_ascii s w (by rw [hc.1]; omega) (fun j b hb => by
    obtain ⟨hj, rfl⟩ := List.getElem?_eq_some_iff.1 hb
    have hj' : j < s.size := by simpa using hj
    have h := hc.2 j hj'
    show s[j].toNat < 128
    by_cases hy : isHy j
    · have := h.1 hy; omega
    · rcases h.2 hy with h | h | h <;> omega)
  obtain ⟨hs, hk⟩ := hc
  have HK := Hid.mk hk
  clear hk
  go_enter Tryd.func6, Tryd.ntmps6
  go_wp2
  go_loop [4] (fun i => ∃ k : Nat, k ≤ 36 ∧ i = .int .i64 k) (fun i => 36 - (RowKit.intOf i).toNat)
  case atStart => exact ⟨0, by omega, rfl⟩
  case round =>
    obtain ⟨k, hk, rfl⟩ := hrel
    by_cases h36 : k < 36
    · have hkb : k < s.size := by omega
      have h := HK.out k hkb
      by_cases hy : isHy k
      · have h45 := h.1 hy
        clear h
        rcases hy with rfl | rfl | rfl | rfl
        · go_wp2
          go_round
          case rel => exact ⟨9, by omega, rfl⟩
          case measure => simp [RowKit.intOf]
        · go_wp2
          go_round
          case rel => exact ⟨14, by omega, rfl⟩
          case measure => simp [RowKit.intOf]
        · go_wp2
          go_round
          case rel => exact ⟨19, by omega, rfl⟩
          case measure => simp [RowKit.intOf]
        · go_wp2
          go_round
          case rel => exact ⟨24, by omega, rfl⟩
          case measure => simp [RowKit.intOf]
      · have hx := h.2 hy
        clear h
        have n8 : ((k : Int) == 8) = false := by rw [beq_eq_false_iff_ne]; unfold isHy at hy; omega
        have n12 : ((k : Int) == 13) = false := by rw [beq_eq_false_iff_ne]; unfold isHy at hy; omega
        have n16 : ((k : Int) == 18) = false := by rw [beq_eq_false_iff_ne]; unfold isHy at hy; omega
        have n20 : ((k : Int) == 23) = false := by rw [beq_eq_false_iff_ne]; unfold isHy at hy; omega
        clear hy
        rcases hx with ⟨h1, h2⟩ | ⟨h1, h2⟩ | ⟨h1, h2⟩
        · go_wp2
          go_round
          case rel => exact ⟨k + 1, by omega, by go_num⟩
          case measure => simp [RowKit.intOf]; omega
        · go_wp2
          go_round
          case rel => exact ⟨k + 1, by omega, by go_num⟩
          case measure => simp [RowKit.intOf]; omega
        · go_wp2
          go_round
          case rel => exact ⟨k + 1, by omega, by go_num⟩
          case measure => simp [RowKit.intOf]; omega
    · obtain rfl : k = 36 := by omega
      go_wp2_with fail
      refine hlow.mono ?_
      rintro e w' ⟨rfl, hb⟩
      go_wp2
      go_returns
      exact ⟨rfl, hb⟩
end Go.Proofs.Qxb6605569aDoor
