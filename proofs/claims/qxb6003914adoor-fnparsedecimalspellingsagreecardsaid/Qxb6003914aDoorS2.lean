import Derived.Test.Qxb6003914aDoorP2
namespace Go.Proofs.Qxb6003914aDoor
open Go.RowKit
set_option maxRecDepth 100000

set_option maxHeartbeats 1000000 in
theorem sp_out1 (ng : Bool) (W F : ByteArray) (x l r : Int) (w : World) (hW : W.size ≤ maxLen) (hF : F.size ≤ maxLen) (h : ¬ (W.size + F.size ≤ 1048576)) :
    Calls Tryd.prog 3 #[.bool ng, .string W, .string F, .int .i64 x, .int .i64 l, .int .i64 r] w fun e w' => e = .returned (.bool true) ∧ Below w.heap.size w w' := by
  unfold maxLen at hW hF
  by_cases h1 : 1048576 < W.size
  · clear h; go_enter Tryd.func3, Tryd.ntmps3; go_wp2; go_ret; exact ⟨rfl, Below.refl _ _⟩
  by_cases h2 : 1048576 < F.size
  · clear h; go_enter Tryd.func3, Tryd.ntmps3; go_wp2; go_ret; exact ⟨rfl, Below.refl _ _⟩
  have h3 : 1048576 < W.size + F.size := by omega
  clear h; go_enter Tryd.func3, Tryd.ntmps3; go_wp2; go_ret; exact ⟨rfl, Below.refl _ _⟩

set_option maxHeartbeats 2000000 in
theorem sp_out2 (ng : Bool) (W F : ByteArray) (x l r : Int) (w : World) (hl : W.size + F.size ≤ 1048576) (h : ¬ (0 ≤ l ∧ l ≤ 64 ∧ 0 ≤ r ∧ r ≤ 64 ∧ -1048576 ≤ x ∧ x ≤ 1048576)) :
    Calls Tryd.prog 3 #[.bool ng, .string W, .string F, .int .i64 x, .int .i64 l, .int .i64 r] w fun e w' => e = .returned (.bool true) ∧ Below w.heap.size w w' := by
  by_cases h1 : l < 0
  · clear h; go_enter Tryd.func3, Tryd.ntmps3; go_wp2; go_ret; exact ⟨rfl, Below.refl _ _⟩
  by_cases h2 : 64 < l
  · clear h; go_enter Tryd.func3, Tryd.ntmps3; go_wp2; go_ret; exact ⟨rfl, Below.refl _ _⟩
  by_cases h3 : r < 0
  · clear h; go_enter Tryd.func3, Tryd.ntmps3; go_wp2; go_ret; exact ⟨rfl, Below.refl _ _⟩
  by_cases h4 : 64 < r
  · clear h; go_enter Tryd.func3, Tryd.ntmps3; go_wp2; go_ret; exact ⟨rfl, Below.refl _ _⟩
  by_cases h5 : x < -1048576
  · clear h; go_enter Tryd.func3, Tryd.ntmps3; go_wp2; go_ret; exact ⟨rfl, Below.refl _ _⟩
  by_cases h6 : 1048576 < x
  · clear h; go_enter Tryd.func3, Tryd.ntmps3; go_wp2; go_ret; exact ⟨rfl, Below.refl _ _⟩
  exact absurd (by omega) h

set_option maxHeartbeats 2000000 in
theorem sp_out3 (ng : Bool) (W F : ByteArray) (x l r : Int) (w : World) (hl : W.size + F.size ≤ 1048576) (h0 : 0 ≤ l) (h1 : l ≤ 64) (h2 : 0 ≤ r) (h3 : r ≤ 64) (h4 : -1048576 ≤ x) (h5 : x ≤ 1048576)
    (h : ¬ (W.toList.isEmpty = false ∧ allDg W.data.toList = true ∧ allDg F.data.toList = true)) :
    Calls Tryd.prog 3 #[.bool ng, .string W, .string F, .int .i64 x, .int .i64 l, .int .i64 r] w fun e w' => e = .returned (.bool true) ∧ Below w.heap.size w w' := by
  have HW : Hid (∀ w, Calls Tryd.prog 7 #[.string W] w fun e w' => e = .returned (.bool (allDg W.data.toList)) ∧ w' = w) := fun w => isdigs_any W w (by unfold maxLen; omega)
  have HF : Hid (∀ w, Calls Tryd.prog 7 #[.string F] w fun e w' => e = .returned (.bool (allDg F.data.toList)) ∧ w' = w) := fun w => isdigs_any F w (by unfold maxLen; omega)
  cases k1 : W.toList.isEmpty
  · cases k2 : allDg W.data.toList
    · clear h
      go_enter Tryd.func3, Tryd.ntmps3
      go_wp2_with (first | (go_at_call 6; go_in) | (go_at_call 7; refine (HW.out _).mono ?_; rintro e w' ⟨rfl, rfl⟩; rw [k2]))
      go_ret
      exact ⟨rfl, Below.refl _ _⟩
    · cases k3 : allDg F.data.toList
      · clear h
        go_enter Tryd.func3, Tryd.ntmps3
        go_wp2_with (first | (go_at_call 6; go_in) | (go_at_call_of 7 (Value.string W); refine (HW.out _).mono ?_; rintro e w' ⟨rfl, rfl⟩; rw [k2]) | (go_at_call_of 7 (Value.string F); refine (HF.out _).mono ?_; rintro e w' ⟨rfl, rfl⟩; rw [k3]))
        go_ret
        exact ⟨rfl, Below.refl _ _⟩
      · exact absurd ⟨k1, k2, k3⟩ h
  · clear h
    go_enter Tryd.func3, Tryd.ntmps3; go_wp2; go_ret; exact ⟨rfl, Below.refl _ _⟩
end Go.Proofs.Qxb6003914aDoor
