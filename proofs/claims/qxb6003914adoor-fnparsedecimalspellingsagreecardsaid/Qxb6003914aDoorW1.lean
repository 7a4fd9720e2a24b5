import Derived.Test.Qxb6003914aDoorProg
import Derived.WalkKit
import Derived.WalkSpells
import Derived.WalkLawsBesides
namespace Go.Proofs.Qxb6003914aDoor
open Go.RowKit

theorem ret_int {k : IntKind} {a b : Int} (h : a = b) : Ending.returned (.int k a) = .returned (.int k b) := by rw [h]

/-- A decimal digit. -/
def digB (c : UInt8) : Bool := decide (48 ≤ c.toNat) && decide (c.toNat ≤ 57)
/-- How many digits a text starts with. -/
def skipN (l : List UInt8) : Nat := (l.takeWhile digB).length

theorem skipN_le (l : List UInt8) : skipN l ≤ l.length := by
  unfold skipN
  exact (List.takeWhile_prefix _).length_le

theorem take_all_of (l : List UInt8) (k : Nat) (hk : k ≤ l.length) (h : ∀ i, (hi : i < l.length) → i < k → digB l[i] = true) (hs : (hk : k < l.length) → digB l[k] = false) : skipN l = k := by
  induction l generalizing k with
  | nil => simp at hk; subst hk; rfl
  | cons a t ih =>
    cases k with
    | zero =>
      have := hs (by simp)
      simp at this
      simp [skipN, this]
    | succ k =>
      have h0 := h 0 (by simp) (by omega)
      simp at h0
      have := ih k (by simpa using hk) (fun i hi hik => by have := h (i+1) (by simpa using hi) (by omega); simpa using this) (fun hk' => by have := hs (by simpa using hk'); simpa using this)
      unfold skipN at this ⊢
      simp [h0, this]

/-- The first k bytes are digits. -/
def AllD (l : List UInt8) (k : Nat) : Prop := ∀ i, (hi : i < l.length) → i < k → digB l[i] = true
theorem allD_zero (l : List UInt8) : AllD l 0 := fun _ _ h => absurd h (Nat.not_lt_zero _)
theorem allD_succ (s : ByteArray) (k : Nat) (h : AllD s.data.toList k) (hk : k < s.size) (h1 : 48 ≤ (s[k].toNat : Int)) (h2 : (s[k].toNat : Int) ≤ 57) : AllD s.data.toList (k + 1) := by
  intro i hi hik
  by_cases e : i = k
  · subst e
    show digB s[i] = true
    unfold digB
    simp; omega
  · exact h i hi (by omega)
theorem skip_at (s : ByteArray) (k : Nat) (h : AllD s.data.toList k) (hk : k < s.size) (h1 : (s[k].toNat : Int) < 48 ∨ 57 < (s[k].toNat : Int)) : skipN s.data.toList = k := by
  refine take_all_of _ k (by simp; omega) h (fun hk' => ?_)
  show digB s[k] = false
  unfold digB
  simp; omega
theorem skip_end (s : ByteArray) (k : Nat) (h : AllD s.data.toList k) (hk : k ≤ s.size) (h1 : ¬ k < s.size) : skipN s.data.toList = k :=
  take_all_of _ k (by simp; omega) h (fun hk' => absurd (by simpa using hk') h1)

set_option maxHeartbeats 400000 in
/-- fieldsieve.skipDigits. -/
theorem skip_any (s : ByteArray) (w : World) (hs : s.size ≤ maxLen) :
    Calls Tryd.prog 20 #[.string s] w fun e w' => e = .returned (.int .i64 (skipN s.data.toList)) ∧ w' = w := by
  unfold maxLen at hs
  go_enter Tryd.func20, Tryd.ntmps20
  go_wp2
  go_loop [3] (fun n => ∃ k : Nat, k ≤ s.size ∧ n = .int .i64 k ∧ AllD s.data.toList k) (fun n => s.size - (intOf n).toNat)
  case atStart => exact ⟨0, Nat.zero_le _, rfl, allD_zero _⟩
  case round =>
    obtain ⟨k, hk, rfl, hall⟩ := hrel
    by_cases hlt : k < s.size
    · go_wp2
      · exact ⟨⟨k + 1, by omega, by go_num, allD_succ s k hall hlt ‹_› ‹_›⟩, by simp [intOf]; omega⟩
      · go_ret
        exact ⟨ret_int (by rw [skip_at s k hall hlt (.inr ‹_›)]), rfl⟩
      · go_ret
        exact ⟨ret_int (by rw [skip_at s k hall hlt (.inl ‹_›)]), rfl⟩
    · go_wp2
      go_ret
      exact ⟨ret_int (by rw [skip_end s k hall hk hlt]), rfl⟩

/-- A decimal as the model has it. -/
abbrev dv (ng : Bool) (a b : ByteArray) (p : Int) : Value := .agg #[.bool ng, .string a, .string b, .int .i64 p]

set_option maxHeartbeats 400000 in
/-- (decimal).len. -/
theorem len_any (ng : Bool) (a b : ByteArray) (p : Int) (w : World) (ha : a.size ≤ 2147483648) (hb : b.size ≤ 2147483648) :
    Calls Tryd.prog 34 #[.agg #[.bool ng, .string a, .string b, .int .i64 p]] w fun e w' => e = .returned (.int .i64 (a.size + b.size)) ∧ w' = w.alloc (.cells #[.bool ng, .string a, .string b, .int .i64 p] 28) := by
  go_enter Tryd.func34, Tryd.ntmps34
  go_wp2
  go_ret
  exact ⟨rfl, rfl⟩

/-- The sign of a decimal. -/
def sgn (ng : Bool) (n : Nat) : Int := if n = 0 then 0 else if ng then -1 else 1

set_option maxHeartbeats 400000 in
/-- (decimal).sign. -/
theorem sign_any (ng : Bool) (a b : ByteArray) (p : Int) (w : World) (ha : a.size ≤ 2147483648) (hb : b.size ≤ 2147483648) :
    Calls Tryd.prog 24 #[.agg #[.bool ng, .string a, .string b, .int .i64 p]] w fun e w' => e = .returned (.int .i64 (sgn ng (a.size + b.size))) ∧ w' = (w.alloc (.cells #[.bool ng, .string a, .string b, .int .i64 p] 28)).alloc (.cells #[.bool ng, .string a, .string b, .int .i64 p] 28) := by
  unfold sgn
  by_cases h0 : a.size + b.size = 0
  · have t0 : ((a.size : Int) + b.size == 0) = true := beq_iff_eq.2 (by omega)
    rw [if_pos h0]
    have H0 : Hid (a.size + b.size = 0) := h0
    clear h0
    go_enter Tryd.func24, Tryd.ntmps24
    go_wp2
    go_ret
    exact ⟨rfl, rfl⟩
  · have t0 : ((a.size : Int) + b.size == 0) = false := beq_eq_false_iff_ne.2 (by omega)
    rw [if_neg h0]
    clear h0
    cases ng
    all_goals
      go_enter Tryd.func24, Tryd.ntmps24
      go_wp2
      go_ret
      exact ⟨rfl, rfl⟩

set_option maxHeartbeats 400000 in
/-- (decimal).digit, in the first run. -/
theorem digit_lo (ng : Bool) (a b : ByteArray) (p : Int) (i : Nat) (w : World) (_ha : a.size ≤ 2147483648) (hi : i < a.size) :
    Calls Tryd.prog 36 #[.agg #[.bool ng, .string a, .string b, .int .i64 p], .int .i64 i] w fun e w' => e = .returned (.int .u8 a[i].toNat) ∧ w' = w.alloc (.cells #[.bool ng, .string a, .string b, .int .i64 p] 28) := by
  go_enter Tryd.func36, Tryd.ntmps36
  go_wp2
  go_ret
  exact ⟨rfl, rfl⟩

set_option maxHeartbeats 400000 in
/-- (decimal).digit, in the second run. -/
theorem digit_hi (ng : Bool) (a b : ByteArray) (p : Int) (i : Nat) (w : World) (_ha : a.size ≤ 2147483648) (hi : a.size ≤ i) (hb : i - a.size < b.size) (hbb : b.size ≤ 2147483648) :
    Calls Tryd.prog 36 #[.agg #[.bool ng, .string a, .string b, .int .i64 p], .int .i64 i] w fun e w' => e = .returned (.int .u8 b[i - a.size].toNat) ∧ w' = w.alloc (.cells #[.bool ng, .string a, .string b, .int .i64 p] 28) := by
  have hc : ((i : Int) - (a.size : Int)) = ((i - a.size : Nat) : Int) := by omega
  go_enter Tryd.func36, Tryd.ntmps36
  go_wp2
  go_ret
  exact ⟨rfl, rfl⟩

/-- A byte of a text. -/
def byteAt (l : List UInt8) (i : Nat) : Int := ((l.getD i 0).toNat : Int)
theorem byteAt_get (s : ByteArray) (i : Nat) (h : i < s.size) : byteAt s.data.toList i = (s[i].toNat : Int) := by
  unfold byteAt
  have e : s.data.toList[i]? = some s[i] := by
    rw [List.getElem?_eq_getElem (by simpa using h)]; rfl
  rw [List.getD_eq_getElem?_getD, e]; rfl
theorem byteAt_lo (a b : ByteArray) (i : Nat) (h : i < a.size) : byteAt (a.data.toList ++ b.data.toList) i = (a[i].toNat : Int) := by
  rw [← byteAt_get a i h]
  unfold byteAt
  rw [List.getD_eq_getElem?_getD, List.getD_eq_getElem?_getD, List.getElem?_append_left (by simpa using h)]
theorem byteAt_hi (a b : ByteArray) (i : Nat) (h : a.size ≤ i) (hb : i - a.size < b.size) : byteAt (a.data.toList ++ b.data.toList) i = (b[i - a.size].toNat : Int) := by
  rw [← byteAt_get b _ hb]
  unfold byteAt
  rw [List.getD_eq_getElem?_getD, List.getD_eq_getElem?_getD, List.getElem?_append_right (by simpa using h)]
  rfl

/-- (decimal).digit. -/
theorem digit_any (ng : Bool) (a b : ByteArray) (p : Int) (i : Nat) (w : World) (ha : a.size ≤ 2147483648) (hb : b.size ≤ 2147483648) (hi : i < a.size + b.size) :
    Calls Tryd.prog 36 #[.agg #[.bool ng, .string a, .string b, .int .i64 p], .int .i64 i] w fun e w' => e = .returned (.int .u8 (byteAt (a.data.toList ++ b.data.toList) i)) ∧ w' = w.alloc (.cells #[.bool ng, .string a, .string b, .int .i64 p] 28) := by
  by_cases h : i < a.size
  · rw [byteAt_lo a b i h]
    exact digit_lo ng a b p i w ha h
  · have hh : i - a.size < b.size := by omega
    rw [byteAt_hi a b i (by omega) hh]
    exact digit_hi ng a b p i w ha (by omega) hh hb

set_option maxHeartbeats 400000 in
theorem pow_any (n : Nat) (w : World) (hn : n ≤ 12) :
    Calls Tryd.prog 14 #[.int .i64 n] w fun e w' => e = .returned (.int .i64 ((10 ^ n : Nat) : Int)) ∧ w' = w := by
  go_enter Tryd.func14, Tryd.ntmps14
  go_wp2
  go_loop [3, 4] (fun p i => ∃ k : Nat, k ≤ n ∧ i = .int .i64 k ∧ ∃ v : Nat, v = 10 ^ k ∧ p = .int .i64 v) (fun _ i => n - (intOf i).toNat)
  case atStart => exact ⟨0, Nat.zero_le _, rfl, 1, rfl, rfl⟩
  case round =>
    obtain ⟨k, hk, rfl, v, hv, rfl⟩ := hrel
    have hb : v ≤ 1000000000000 := by
      rw [hv]; exact Nat.pow_le_pow_right (n := 10) (by omega) (show k ≤ 12 by omega)
    have HV : Hid (v = 10 ^ k) := hv
    clear hv
    by_cases hlt : k < n
    · go_wp2
      exact ⟨⟨k + 1, by omega, by go_num, v * 10, by rw [HV.out, Nat.pow_succ], by go_num⟩, by simp [intOf]; omega⟩
    · have : k = n := by omega
      subst this
      go_wp2
      go_ret
      exact ⟨ret_int (by rw [HV.out]; simp), rfl⟩

/-- -1, 0 or 1 as x is below, at or above y. -/
def cmp3 (x y : Int) : Int := if x < y then -1 else if y < x then 1 else 0

set_option maxHeartbeats 400000 in
/-- cmp.Compare at int. -/
theorem cmpI_any (x y : Int) (w : World) :
    Calls Tryd.prog 25 #[.int .i64 x, .int .i64 y] w fun e w' => e = .returned (.int .i64 (cmp3 x y)) ∧ w' = w := by
  unfold cmp3
  by_cases h1 : x < y
  · rw [if_pos h1]
    go_enter Tryd.func25, Tryd.ntmps25
    go_wp2
    go_ret
    exact ⟨rfl, rfl⟩
  · rw [if_neg h1]
    by_cases h2 : y < x
    · rw [if_pos h2]
      go_enter Tryd.func25, Tryd.ntmps25
      go_wp2
      go_ret
      exact ⟨rfl, rfl⟩
    · rw [if_neg h2]
      go_enter Tryd.func25, Tryd.ntmps25
      go_wp2
      go_ret
      exact ⟨rfl, rfl⟩

set_option maxHeartbeats 400000 in
/-- cmp.Compare at byte. -/
theorem cmpB_any (x y : Int) (w : World) :
    Calls Tryd.prog 37 #[.int .u8 x, .int .u8 y] w fun e w' => e = .returned (.int .i64 (cmp3 x y)) ∧ w' = w := by
  unfold cmp3
  by_cases h1 : x < y
  · rw [if_pos h1]
    go_enter Tryd.func37, Tryd.ntmps37
    go_wp2
    go_ret
    exact ⟨rfl, rfl⟩
  · rw [if_neg h1]
    by_cases h2 : y < x
    · rw [if_pos h2]
      go_enter Tryd.func37, Tryd.ntmps37
      go_wp2
      go_ret
      exact ⟨rfl, rfl⟩
    · rw [if_neg h2]
      go_enter Tryd.func37, Tryd.ntmps37
      go_wp2
      go_ret
      exact ⟨rfl, rfl⟩
end Go.Proofs.Qxb6003914aDoor
