import Derived.Test.Qxb6605199aDoorP2
namespace Go.Proofs.Qxb6605199aDoor
open Go.RowKit Go.Lib

/-- The signs of the two patterns. -/
def signs : List Int := [80, 79, 83, 84, 72, 111, 115, 116, 58]
theorem or_tab : ∀ c ∈ signs, ∀ a : Fin 256, (128 ≤ bits BinOp.or IntKind.u8 (a.val : Int) c) ↔ 128 ≤ (a.val : Int) := by decide +kernel
theorem or_iff {a c : Int} (ha : 0 ≤ a ∧ a < 256) (hc : c ∈ signs) : (128 ≤ bits BinOp.or IntKind.u8 a c) ↔ 128 ≤ a := by
  have := or_tab c hc ⟨a.toNat, by omega⟩
  simpa [Int.toNat_of_nonneg ha.1] using this
theorem signs_lt {y : Int} (h : y ∈ signs) : 58 ≤ y ∧ y < 117 := by
  simp [signs] at h; omega
theorem ef_end (l p : List UInt8) (n m k : Nat) (hn : l.length = n) (hm : p.length = m) (hk : min n m = k) : ef (l.drop k) (p.drop k) = ((n : Int) == (m : Int)) := by
  by_cases h : n = m
  · subst h
    rw [List.drop_of_length_le (by omega), List.drop_of_length_le (by omega)]
    simp [ef_nil]
  · rw [show ((n : Int) == (m : Int)) = false by rw [beq_eq_false_iff_ne]; omega]
    by_cases h' : n < m
    · rw [List.drop_of_length_le (show l.length ≤ k by omega), drop_cons p k (by omega), ef_short]
    · rw [List.drop_of_length_le (show p.length ≤ k by omega), ef_nil, drop_cons l k (by omega)]
      rfl
theorem ef_fin (l p : List UInt8) (n m a c : Nat) (hn : l.length = n) (hm : p.length = m) (ha : a ≤ n) (hc : c ≤ m) (h : ¬ (a < n ∧ c < m)) : ef (l.drop a) (p.drop c) = (((n - a : Nat) : Int) == ((m - c : Nat) : Int)) := by
  by_cases h1 : a < n
  · rw [List.drop_of_length_le (show p.length ≤ c by omega), ef_nil, drop_cons l a (by omega), show (((n - a : Nat) : Int) == ((m - c : Nat) : Int)) = false by rw [beq_eq_false_iff_ne]; omega]
    rfl
  · by_cases h2 : c < m
    · rw [List.drop_of_length_le (show l.length ≤ a by omega), drop_cons p c (by omega), ef_short, show (((n - a : Nat) : Int) == ((m - c : Nat) : Int)) = false by rw [beq_eq_false_iff_ne]; omega]
    · rw [List.drop_of_length_le (show l.length ≤ a by omega), List.drop_of_length_le (show p.length ≤ c by omega), show (((n - a : Nat) : Int) == ((m - c : Nat) : Int)) = true by rw [beq_iff_eq]; omega]
      rfl
/-- The next rune of an orbit. -/
def nxt (z : Nat) : Nat := if z = 383 then 83 else afold z
theorem fold_any (z : Nat) (hz : z < 128 ∨ z = 383) (w : World) (hA : AF w) (hC : CO w) : Calls Tryd.prog 14 #[.int .i32 z] w fun e w' => e = .returned (.int .i32 (nxt z)) ∧ w' = w := by
  rcases hz with h | rfl
  · have : nxt z = afold z := by unfold nxt; rw [if_neg (by omega)]
    rw [this]
    exact fold_ascii z h w hA
  · exact fold_17F w hC
/-- Where the fold loop stands. -/
def Spin (y r z : Nat) : Prop := ((r = 383 ∧ (y = 83 ∨ y = 115)) → z = 383 ∨ (y = 83 ∧ z = 115)) ∧ (z = y ∨ z = afold y ∨ z = nxt (afold y))
def rk (y z : Nat) : Nat := if z = y then 0 else if z = afold y then 2 else 1
theorem sign_cases {y : Nat} (h : (y : Int) ∈ signs) : y = 80 ∨ y = 79 ∨ y = 83 ∨ y = 84 ∨ y = 72 ∨ y = 111 ∨ y = 115 ∨ y = 116 ∨ y = 58 := by
  simp [signs] at h; omega
theorem spin_start {y : Nat} (r : Nat) (h : (y : Int) ∈ signs) : Spin y r (nxt y) := by
  rcases sign_cases h with rfl | rfl | rfl | rfl | rfl | rfl | rfl | rfl | rfl <;> simp [Spin, nxt, afold]
theorem spin_bd {y r z : Nat} (h : (y : Int) ∈ signs) (hS : Spin y r z) : z < 128 ∨ z = 383 := by
  rcases sign_cases h with rfl | rfl | rfl | rfl | rfl | rfl | rfl | rfl | rfl <;> simp [Spin, nxt, afold] at hS <;> omega
theorem spin_step {y r z : Nat} (h : (y : Int) ∈ signs) (hS : Spin y r z) (h1 : z ≠ y) (h2 : z < r) : Spin y r (nxt z) ∧ rk y (nxt z) < rk y z := by
  obtain ⟨p1, p2⟩ := hS
  rcases sign_cases h with rfl | rfl | rfl | rfl | rfl | rfl | rfl | rfl | rfl <;> rcases p2 with rfl | rfl | rfl <;> simp [Spin, rk, nxt, afold] at * <;> omega
theorem spin_end {y r z : Nat} (h : (y : Int) ∈ signs) (hS : Spin y r z) (h1 : z = y ∨ r ≤ z) (hr : 128 ≤ r) : z = r ↔ (r = 383 ∧ (y = 83 ∨ y = 115)) := by
  rcases sign_cases h with rfl | rfl | rfl | rfl | rfl | rfl | rfl | rfl | rfl <;> simp [Spin, nxt, afold] at hS <;> omega
/-- What is left of a slice from position a on. -/
def At (b off n a : Nat) (v : Value) : Prop := ∃ A cp, v = .slice (some A) (n - a) cp ∧ n - a ≤ cp ∧ (a < n → A = ⟨b, off + a, none⟩)
def lenOf : Value → Nat | .slice _ n _ => n | _ => 0
/-- One step of the second phase beyond ASCII. -/
theorem ef_big (l p : List UInt8) (a c : Nat) (ha : a < l.length) (hc : c < p.length) (hx : 128 ≤ ba l a) (hy : ba p c ∈ signs) :
    ef (l.drop a) (p.drop c) = if (decodeGo ⟨(l.drop a).toArray⟩).1 = 383 ∧ ((p.getD c 0).toNat = 83 ∨ (p.getD c 0).toNat = 115) then ef (l.drop (a + 2)) (p.drop (c + 1)) else false := by
  have hd := dec_big (l.drop a) (by simp; omega) (by rw [ba_drop]; exact hx)
  simp only [ba_drop, Nat.add_zero, List.length_drop] at hd
  have hlt := signs_lt hy
  rw [ef_step l p a c ha hc, if_neg (by omega), if_neg (by unfold pair; omega)]
  obtain ⟨d1, d2, d3, d4, d5, d6⟩ := hd
  have e : ((ba p c = 83 ∨ ba p c = 115) ∧ ba l a = 197 ∧ a + 1 < l.length ∧ ba l (a + 1) = 191) ↔ ((decodeGo ⟨(l.drop a).toArray⟩).1 = 383 ∧ ((p.getD c 0).toNat = 83 ∨ (p.getD c 0).toNat = 115)) := by
    have ey : ba p c = ((p.getD c 0).toNat : Int) := rfl
    constructor
    · rintro ⟨q1, q2, q3, q4⟩
      exact ⟨d6 ⟨q2, by omega, q4⟩, by omega⟩
    · rintro ⟨q1, q2⟩
      obtain ⟨r1, r2, r3, -⟩ := d5 q1
      exact ⟨by omega, r1, by omega, r3⟩
  simp only [e]
end Go.Proofs.Qxb6605199aDoor
