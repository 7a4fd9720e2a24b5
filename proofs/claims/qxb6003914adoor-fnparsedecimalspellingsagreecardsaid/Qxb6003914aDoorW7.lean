import Derived.Test.Qxb6003914aDoorW6
import Derived.Test.Qxb6003914aDoorW2
namespace Go.Proofs.Qxb6003914aDoor
open Go.RowKit

theorem cmpT_bd : ∀ x y : List UInt8, -1 ≤ cmpT x y ∧ cmpT x y ≤ 1
  | [], [] => by simp [cmpT]
  | [], _ :: _ => by simp [cmpT]
  | _ :: _, [] => by simp [cmpT]
  | a :: x, b :: y => by
    unfold cmpT
    split
    · exact cmpT_bd x y
    · unfold cmp3; split
      · omega
      · split <;> omega
theorem cmp3_bd (x y : Int) : -1 ≤ cmp3 x y ∧ cmp3 x y ≤ 1 := by
  unfold cmp3; split
  · omega
  · split <;> omega
theorem cmpM_bd (p q : Int) (x y : List UInt8) : -1 ≤ cmpM p q x y ∧ cmpM p q x y ≤ 1 := by
  unfold cmpM; split
  · exact cmpT_bd x y
  · exact cmp3_bd p q

theorem mag_any (n1 n2 : Bool) (a b c d : ByteArray) (p q : Int) (w : World) (ha : a.size ≤ 2147483648) (hb : b.size ≤ 2147483648) (hc : c.size ≤ 2147483648) (hd : d.size ≤ 2147483648) :
    Calls Tryd.prog 26 #[.agg #[.bool n1, .string a, .string b, .int .i64 p], .agg #[.bool n2, .string c, .string d, .int .i64 q]] w fun e w' =>
      e = .returned (.int .i64 (cmpM p q (a.data.toList ++ b.data.toList) (c.data.toList ++ d.data.toList))) ∧ Below w.heap.size w w' := by
  unfold cmpM
  by_cases h : p = q
  · subst h
    rw [if_pos rfl]
    by_cases hle : a.size + b.size ≤ c.size + d.size
    · exact mag_le n1 n2 a b c d p w ha hb hc hd hle
    · exact mag_gt n1 n2 a b c d p w ha hb hc hd (by omega)
  · rw [if_neg h]
    exact mag_ne n1 n2 a b c d p q w h

theorem sgn_bd (ng : Bool) (n : Nat) : -1 ≤ sgn ng n ∧ sgn ng n ≤ 1 := by
  unfold sgn; split
  · omega
  · split <;> omega

/-- The order of two decimals. -/
def cmpD (n1 n2 : Bool) (p q : Int) (x y : List UInt8) : Int :=
  if sgn n1 x.length = sgn n2 y.length then sgn n1 x.length * cmpM p q x y else cmp3 (sgn n1 x.length) (sgn n2 y.length)

set_option maxHeartbeats 2000000 in
theorem cmp_ne (n1 n2 : Bool) (a b c d : ByteArray) (p q : Int) (w : World) (ha : a.size ≤ 2147483648) (hb : b.size ≤ 2147483648) (hc : c.size ≤ 2147483648) (hd : d.size ≤ 2147483648)
    (g1 g2 : Int) (e1 : sgn n1 (a.size + b.size) = g1) (e2 : sgn n2 (c.size + d.size) = g2) (h : (g1 != g2) = true) :
    Calls Tryd.prog 19 #[.agg #[.bool n1, .string a, .string b, .int .i64 p], .agg #[.bool n2, .string c, .string d, .int .i64 q]] w fun e w' =>
      e = .returned (.int .i64 (cmp3 g1 g2)) ∧ Below w.heap.size w w' := by
  have S1 := fun w' => sign_any n1 a b p w' ha hb
  have S2 := fun w' => sign_any n2 c d q w' hc hd
  rw [e1] at S1
  rw [e2] at S2
  have H1 := Hid.mk S1
  have H2 := Hid.mk S2
  clear S1 S2 e1 e2
  go_enter Tryd.func19, Tryd.ntmps19
  go_wp2_with fail
  go_region_with (first | (go_at_call_of 24 (Value.string a); refine (H1.out _).mono ?_; rintro e w' ⟨rfl, rfl⟩) | (go_at_call_of 24 (Value.string c); refine (H2.out _).mono ?_; rintro e w' ⟨rfl, rfl⟩))
  all_goals
    go_wp2_with (go_at_call 25; refine (cmpI_any _ _ _).mono ?_; rintro e w' ⟨rfl, rfl⟩)
    go_ret
    exact ⟨rfl, by go_grown⟩

set_option maxHeartbeats 2000000 in
theorem cmp_eq (n1 n2 : Bool) (a b c d : ByteArray) (p q : Int) (w : World) (ha : a.size ≤ 2147483648) (hb : b.size ≤ 2147483648) (hc : c.size ≤ 2147483648) (hd : d.size ≤ 2147483648)
    (g1 : Int) (e1 : sgn n1 (a.size + b.size) = g1) (e2 : sgn n2 (c.size + d.size) = g1) :
    Calls Tryd.prog 19 #[.agg #[.bool n1, .string a, .string b, .int .i64 p], .agg #[.bool n2, .string c, .string d, .int .i64 q]] w fun e w' =>
      e = .returned (.int .i64 (g1 * cmpM p q (a.data.toList ++ b.data.toList) (c.data.toList ++ d.data.toList))) ∧ Below w.heap.size w w' := by
  have b1 := sgn_bd n1 (a.size + b.size)
  rw [e1] at b1
  have S1 := fun w' => sign_any n1 a b p w' ha hb
  have S2 := fun w' => sign_any n2 c d q w' hc hd
  rw [e1] at S1
  rw [e2] at S2
  have H1 := Hid.mk S1
  have H2 := Hid.mk S2
  clear S1 S2 e1 e2
  have M := fun w' => mag_any n1 n2 a b c d p q w' ha hb hc hd
  have b2 := cmpM_bd p q (a.data.toList ++ b.data.toList) (c.data.toList ++ d.data.toList)
  generalize cmpM p q (a.data.toList ++ b.data.toList) (c.data.toList ++ d.data.toList) = m at *
  have HM := Hid.mk M
  clear M
  have t0 : (g1 != g1) = false := by simp
  have b3 : -1 ≤ g1 * m ∧ g1 * m ≤ 1 := by
    have hg : g1 = -1 ∨ g1 = 0 ∨ g1 = 1 := by omega
    rcases hg with rfl | rfl | rfl <;> omega
  go_enter Tryd.func19, Tryd.ntmps19
  go_wp2_with fail
  go_region_with (first | (go_at_call_of 24 (Value.bool n1); refine (H1.out _).mono ?_; rintro e w' ⟨rfl, rfl⟩) | (go_at_call_of 24 (Value.bool n2); refine (H2.out _).mono ?_; rintro e w' ⟨rfl, rfl⟩))
  all_goals
    go_wp2_with fail
    refine (HM.out _).mono ?_
    rintro e w1 ⟨rfl, hbl⟩
    go_wp2
    go_ret
    refine ⟨rfl, ?_⟩
    refine Below.trans ?_ (hbl.mono ?_)
    · go_grown
    · simp; omega
end Go.Proofs.Qxb6003914aDoor
