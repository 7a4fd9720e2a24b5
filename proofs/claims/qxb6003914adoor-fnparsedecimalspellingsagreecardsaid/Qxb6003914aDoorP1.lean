import Derived.Test.Qxb6003914aDoorW8
namespace Go.Proofs.Qxb6003914aDoor

/-- All digits; not ending in a zero. -/
def Digs (l : List UInt8) : Prop := ∀ c ∈ l, digB c = true
def NoZ (l : List UInt8) : Prop := ∀ c, l.getLast? = some c → c ≠ 48

theorem Digs.tail {c : UInt8} {l : List UInt8} (h : Digs (c :: l)) : Digs l := fun d hd => h d (by simp [hd])
theorem Digs.head {c : UInt8} {l : List UInt8} (h : Digs (c :: l)) : 48 ≤ c.toNat ∧ c.toNat ≤ 57 := by
  have := h c (by simp); unfold digB at this; simpa using this
theorem NoZ.tail {c : UInt8} {l : List UInt8} (h : NoZ (c :: l)) : NoZ l := by
  intro d hd
  cases l with
  | nil => simp at hd
  | cons b l => exact h d (by simpa using hd)

theorem valOf_lt (l : List UInt8) (h : Digs l) : valOf l < 10 ^ l.length := by
  induction l with
  | nil => simp [valOf]
  | cons c l ih =>
    have h1 := ih h.tail
    have h2 := h.head
    simp only [valOf, List.length_cons, Nat.pow_succ]
    have h3 : (c.toNat - 48) * 10 ^ l.length ≤ 9 * 10 ^ l.length := Nat.mul_le_mul_right _ (by omega)
    omega
theorem valOf_ge (c : UInt8) (l : List UInt8) (h : Digs (c :: l)) (hc : c ≠ 48) : 10 ^ l.length ≤ valOf (c :: l) := by
  have h2 := h.head
  have h3 : c.toNat ≠ 48 := fun e => hc (UInt8.toNat_inj.1 (by simpa using e))
  have h4 : 1 * 10 ^ l.length ≤ (c.toNat - 48) * 10 ^ l.length := Nat.mul_le_mul_right _ (by omega)
  simp only [valOf]; omega
theorem valOf_pos (l : List UInt8) (h : Digs l) (hz : NoZ l) (hn : l ≠ []) : 0 < valOf l := by
  induction l with
  | nil => exact absurd rfl hn
  | cons c l ih =>
    simp only [valOf]
    cases l with
    | nil =>
      have h2 := h.head
      have h3 : c ≠ 48 := hz c (by simp)
      have h4 : c.toNat ≠ 48 := fun e => h3 (UInt8.toNat_inj.1 (by simpa using e))
      simp [valOf]; omega
    | cons b l =>
      have := ih h.tail hz.tail (by simp)
      omega

theorem cmp3_lt {x y : Int} (h : x < y) : cmp3 x y = -1 := by unfold cmp3; rw [if_pos h]
theorem cmp3_gt {x y : Int} (h : y < x) : cmp3 x y = 1 := by unfold cmp3; rw [if_neg (by omega), if_pos h]
theorem cmp3_self (x : Int) : cmp3 x x = 0 := by unfold cmp3; simp
theorem cmp3_neg (x y : Int) : cmp3 y x = -cmp3 x y := by
  rcases Int.lt_trichotomy x y with h | h | h
  · rw [cmp3_gt h, cmp3_lt h]; rfl
  · subst h; rw [cmp3_self]; rfl
  · rw [cmp3_lt h, cmp3_gt h]
theorem cmp3_add (x y z : Int) : cmp3 (z + x) (z + y) = cmp3 x y := by
  rcases Int.lt_trichotomy x y with h | h | h
  · rw [cmp3_lt h, cmp3_lt (by omega)]
  · subst h; rw [cmp3_self, cmp3_self]
  · rw [cmp3_gt h, cmp3_gt (by omega)]

/-- At one point the digits order as text does. -/
theorem cmpT_val : ∀ (x y : List UInt8) (e f : Nat), Digs x → Digs y → NoZ x → NoZ y → x.length + e = y.length + f → cmpT x y = cmp3 ((valOf x * 10 ^ e : Nat) : Int) ((valOf y * 10 ^ f : Nat) : Int)
  | [], [], e, f, _, _, _, _, _ => by simp [cmpT, valOf, cmp3]
  | [], b :: y, e, f, _, hy, _, zy, _ => by
    have h1 := valOf_pos (b :: y) hy zy (by simp)
    have h2 : 0 < valOf (b :: y) * 10 ^ f := Nat.mul_pos h1 (Nat.pow_pos (by omega))
    rw [cmp3_lt (by simp only [valOf] at h2 ⊢; omega)]; rfl
  | a :: x, [], e, f, hx, _, zx, _, _ => by
    have h1 := valOf_pos (a :: x) hx zx (by simp)
    have h2 : 0 < valOf (a :: x) * 10 ^ e := Nat.mul_pos h1 (Nat.pow_pos (by omega))
    rw [cmp3_gt (by simp only [valOf] at h2 ⊢; omega)]; rfl
  | a :: x, b :: y, e, f, hx, hy, zx, zy, hl => by
    have hl' : x.length + e = y.length + f := by simp at hl; omega
    have ha := hx.head
    have hb := hy.head
    have vx := valOf_lt x hx.tail
    have vy := valOf_lt y hy.tail
    have ex : valOf (a :: x) * 10 ^ e = (a.toNat - 48) * 10 ^ (x.length + e) + valOf x * 10 ^ e := by
      simp only [valOf]; rw [Nat.add_mul, Nat.mul_assoc, ← Nat.pow_add]
    have ey : valOf (b :: y) * 10 ^ f = (b.toNat - 48) * 10 ^ (x.length + e) + valOf y * 10 ^ f := by
      simp only [valOf]; rw [Nat.add_mul, Nat.mul_assoc, ← Nat.pow_add, hl']
    have bx : valOf x * 10 ^ e < 10 ^ (x.length + e) := by
      rw [Nat.pow_add]; exact Nat.mul_lt_mul_of_pos_right vx (Nat.pow_pos (by omega))
    have by' : valOf y * 10 ^ f < 10 ^ (x.length + e) := by
      rw [hl', Nat.pow_add]; exact Nat.mul_lt_mul_of_pos_right vy (Nat.pow_pos (by omega))
    rw [ex, ey]
    generalize 10 ^ (x.length + e) = L at *
    have ih := cmpT_val x y e f hx.tail hy.tail zx.tail zy.tail hl'
    generalize valOf x * 10 ^ e = X at *
    generalize valOf y * 10 ^ f = Y at *
    unfold cmpT
    by_cases h : a = b
    · subst h
      rw [if_pos rfl, ih]
      generalize (a.toNat - 48) * L = Z
      have := cmp3_add X Y Z
      rw [show ((Z + X : Nat) : Int) = (Z : Int) + X by omega, show ((Z + Y : Nat) : Int) = (Z : Int) + Y by omega, this]
    · rw [if_neg h]
      have hn : a.toNat ≠ b.toNat := fun e => h (UInt8.toNat_inj.1 e)
      rcases Nat.lt_or_gt_of_ne hn with g | g
      · have : (a.toNat - 48 + 1) * L ≤ (b.toNat - 48) * L := Nat.mul_le_mul_right _ (by omega)
        rw [Nat.add_mul] at this
        rw [cmp3_lt (by omega), cmp3_lt (by omega)]
      · have : (b.toNat - 48 + 1) * L ≤ (a.toNat - 48) * L := Nat.mul_le_mul_right _ (by omega)
        rw [Nat.add_mul] at this
        rw [cmp3_gt (by omega), cmp3_gt (by omega)]

/-- Not beginning with a zero. -/
def NoL (l : List UInt8) : Prop := ∀ c, l.head? = some c → c ≠ 48

/-- Magnitudes order as the scaled numbers do. -/
theorem cmpM_val (p q : Int) (x y : List UInt8) (e f K : Nat) (hx : Digs x) (hy : Digs y) (zx : NoZ x) (zy : NoZ y) (lx : NoL x) (ly : NoL y) (nx : x ≠ []) (ny : y ≠ [])
    (he : (e : Int) = p - x.length + K) (hf : (f : Int) = q - y.length + K) : cmpM p q x y = cmp3 ((valOf x * 10 ^ e : Nat) : Int) ((valOf y * 10 ^ f : Nat) : Int) := by
  unfold cmpM
  by_cases h : p = q
  · rw [if_pos h]
    exact cmpT_val x y e f hx hy zx zy (by omega)
  · rw [if_neg h]
    have key : ∀ (x y : List UInt8) (e f : Nat), Digs x → Digs y → NoL y → x ≠ [] → y ≠ [] → x.length + e < y.length + f → valOf x * 10 ^ e < valOf y * 10 ^ f := by
      intro x y e f hx hy ly nx ny hlt
      cases y with
      | nil => exact absurd rfl ny
      | cons b y =>
        have h1 := valOf_lt x hx
        have h2 := valOf_ge b y hy (ly b rfl)
        have h3 : valOf x * 10 ^ e < 10 ^ (x.length + e) := by rw [Nat.pow_add]; exact Nat.mul_lt_mul_of_pos_right h1 (Nat.pow_pos (by omega))
        have h4 : 10 ^ (y.length + f) ≤ valOf (b :: y) * 10 ^ f := by rw [Nat.pow_add]; exact Nat.mul_le_mul_right _ h2
        have h5 : 10 ^ (x.length + e) ≤ 10 ^ (y.length + f) := Nat.pow_le_pow_right (by omega) (by simp at hlt; omega)
        omega
    rcases Int.lt_or_gt_of_ne h with g | g
    · have := key x y e f hx hy ly nx ny (by omega)
      rw [cmp3_lt g, cmp3_lt (by omega)]
    · have := key y x f e hy hx lx ny nx (by omega)
      rw [cmp3_gt g, cmp3_gt (by omega)]

theorem valOf_append (a b : List UInt8) : valOf (a ++ b) = valOf a * 10 ^ b.length + valOf b := by
  induction a with
  | nil => simp [valOf]
  | cons c a ih =>
    simp only [List.cons_append, valOf, ih, List.length_append]
    rw [Nat.add_mul, Nat.mul_assoc, ← Nat.pow_add]; omega
theorem valOf_zeros (k : Nat) : valOf (List.replicate k 48) = 0 := by
  induction k with
  | zero => rfl
  | succ k ih => simp [List.replicate_succ, valOf, ih]

theorem tl_eq (l : List UInt8) : l = List.replicate (l.length - (tl l).length) 48 ++ tl l := by
  induction l with
  | nil => rfl
  | cons a l ih =>
    unfold tl Lib.trimLeftB at ih ⊢
    rw [List.dropWhile_cons]
    split
    · rename_i h
      have ha : a = 48 := by simpa using h
      subst ha
      have hle : (l.dropWhile (· == 48)).length ≤ l.length := (List.dropWhile_suffix _).length_le
      rw [show (48 :: l).length - (l.dropWhile (· == 48)).length = (l.length - (l.dropWhile (· == 48)).length) + 1 by simp; omega, List.replicate_succ, List.cons_append, ← ih]
    · simp
theorem tr_eq (l : List UInt8) : l = tr l ++ List.replicate (l.length - (tr l).length) 48 := by
  have h := tl_eq l.reverse
  have e : tr l = (tl l.reverse).reverse := rfl
  have h2 := congrArg List.reverse h
  rw [List.reverse_reverse, List.reverse_append, List.reverse_replicate] at h2
  rw [e, List.length_reverse]
  simpa using h2
theorem tl_digs {l : List UInt8} (h : Digs l) : Digs (tl l) := fun c hc => h c (by rw [tl_eq l]; simp [hc])
theorem tr_digs {l : List UInt8} (h : Digs l) : Digs (tr l) := fun c hc => h c (by rw [tr_eq l]; simp [hc])
theorem tl_val (l : List UInt8) : valOf (tl l) = valOf l := by
  have h := congrArg valOf (tl_eq l)
  rw [valOf_append, valOf_zeros] at h
  omega
theorem tr_val (l : List UInt8) : valOf (tr l) * 10 ^ (l.length - (tr l).length) = valOf l := by
  have h := congrArg valOf (tr_eq l)
  rw [valOf_append, valOf_zeros, List.length_replicate] at h
  omega
theorem tl_nol (l : List UInt8) : NoL (tl l) := by
  intro c hc
  cases e : tl l with
  | nil => rw [e] at hc; simp at hc
  | cons a t =>
    rw [e] at hc
    have := tl_head l a t e
    simp at hc
    subst hc
    exact this
theorem tr_noz (l : List UInt8) : NoZ (tr l) := by
  intro c hc
  have e : tr l = (tl l.reverse).reverse := rfl
  rw [e, List.getLast?_reverse] at hc
  exact tl_nol l.reverse c hc
theorem tr_nol {l : List UInt8} (h : NoL l) : NoL (tr l) := by
  intro c hc
  refine h c ?_
  rw [tr_eq l]
  cases e : tr l with
  | nil => rw [e] at hc; simp at hc
  | cons a t => rw [e] at hc; simpa using hc

/-- What a text 'D e p' comes to: the scaled number behind it. -/
theorem pd_int (ng : Bool) (D : List UInt8) (p : Int) (hD : Digs D) :
    (valOf D = 0 ∧ pd ng D [] p = (false, [], [], 0)) ∨
    (0 < valOf D ∧ ∃ T : List UInt8, pd ng D [] p = (ng, T, [], (tl D).length + p) ∧ Digs T ∧ NoZ T ∧ NoL T ∧ T ≠ [] ∧ T.length ≤ (tl D).length ∧ valOf T * 10 ^ ((tl D).length - T.length) = valOf D) := by
  cases h : (tl D).isEmpty
  · right
    have hne : tl D ≠ [] := by intro e; rw [e] at h; simp at h
    have t1 := tl_digs hD
    have t2 := tl_nol D
    have hT : tr (tl D) ≠ [] := by
      have := tr_tl_ne D h
      intro e; rw [e] at this; simp at this
    have hv := valOf_pos (tr (tl D)) (tr_digs t1) (tr_noz _) hT
    have he := tr_val (tl D)
    rw [tl_val] at he
    refine ⟨?_, tr (tl D), by simp [pd, h, tr_nil], tr_digs t1, tr_noz _, tr_nol t2, hT, tr_len _, he⟩
    rw [← he]
    exact Nat.mul_pos hv (Nat.pow_pos (by omega))
  · left
    have e := List.isEmpty_iff.1 h
    refine ⟨?_, by simp [pd, e, tl_nil, tr_nil]⟩
    rw [← tl_val, e]; rfl

theorem sgn_zero (ng : Bool) : sgn ng 0 = 0 := by simp [sgn]
theorem sgn_pos (a : Int) (h : 0 < a) (n : Nat) (hn : 0 < n) : sgn (decide (a < 0)) n = 1 := by
  unfold sgn; rw [if_neg (by omega)]; simp; omega
theorem sgn_neg (a : Int) (h : a < 0) (n : Nat) (hn : 0 < n) : sgn (decide (a < 0)) n = -1 := by
  unfold sgn; rw [if_neg (by omega)]; simp [h]
theorem abs_pos (a : Int) (h : 0 < a) (A P : Nat) (hA : (A : Int) = a.natAbs) : a * (10 ^ P : Nat) = ((A * 10 ^ P : Nat) : Int) := by
  have : a = (A : Int) := by omega
  rw [this]; simp
theorem abs_neg (a : Int) (h : a < 0) (A P : Nat) (hA : (A : Int) = a.natAbs) : a * (10 ^ P : Nat) = -((A * 10 ^ P : Nat) : Int) := by
  have : a = -(A : Int) := by omega
  rw [this, Int.neg_mul]; simp

/-- THE PLAIN LAW: two decimals order as the scaled integers do. -/
theorem orders (a b p q : Int) (D1 D2 : List UInt8) (h1 : Digs D1) (h2 : Digs D2) (e1 : (valOf D1 : Int) = a.natAbs) (e2 : (valOf D2 : Int) = b.natAbs) (P Q : Nat) (hp : (P : Int) = p + 6) (hq : (Q : Int) = q + 6) :
    ∀ n1 n2 T1 T2 U1 U2 r1 r2, pd (decide (a < 0)) D1 [] p = (n1, T1, U1, r1) → pd (decide (b < 0)) D2 [] q = (n2, T2, U2, r2) →
      cmpD n1 n2 r1 r2 (T1 ++ U1) (T2 ++ U2) = cmp3 (a * (10 ^ P : Nat)) (b * (10 ^ Q : Nat)) := by
  intro n1 n2 T1 T2 U1 U2 r1 r2 g1 g2
  have pP : 0 < 10 ^ P := Nat.pow_pos (by omega)
  have pQ : 0 < 10 ^ Q := Nat.pow_pos (by omega)
  rcases pd_int (decide (a < 0)) D1 p h1 with ⟨z1, f1⟩ | ⟨z1, X1, f1, d1, y1, l1, m1, s1, v1⟩ <;>
  rcases pd_int (decide (b < 0)) D2 q h2 with ⟨z2, f2⟩ | ⟨z2, X2, f2, d2, y2, l2, m2, s2, v2⟩ <;>
  rw [f1] at g1 <;> rw [f2] at g2 <;> simp only [Prod.mk.injEq] at g1 g2 <;> obtain ⟨rfl, rfl, rfl, rfl⟩ := g1 <;> obtain ⟨rfl, rfl, rfl, rfl⟩ := g2
  · have a0 : a = 0 := by omega
    have b0 : b = 0 := by omega
    subst a0; subst b0
    simp [cmpD, sgn, cmp3_self]
  · have a0 : a = 0 := by omega
    subst a0
    have lp : 0 < (X2 ++ []).length := by rw [List.append_nil]; exact List.length_pos_iff.2 m2
    unfold cmpD
    rw [show ([] ++ [] : List UInt8).length = 0 from rfl, sgn_zero]
    rcases Int.lt_or_gt_of_ne (show b ≠ 0 by omega) with g | g
    · rw [sgn_neg b g _ lp, if_neg (by omega), abs_neg b g _ Q e2]
      have : 0 < valOf D2 * 10 ^ Q := Nat.mul_pos z2 pQ
      rw [cmp3_gt (by omega), cmp3_gt (by omega)]
    · rw [sgn_pos b g _ lp, if_neg (by omega), abs_pos b g _ Q e2]
      have : 0 < valOf D2 * 10 ^ Q := Nat.mul_pos z2 pQ
      rw [cmp3_lt (by omega), cmp3_lt (by omega)]
  · have b0 : b = 0 := by omega
    subst b0
    have lp : 0 < (X1 ++ []).length := by rw [List.append_nil]; exact List.length_pos_iff.2 m1
    unfold cmpD
    rw [show ([] ++ [] : List UInt8).length = 0 from rfl, sgn_zero]
    rcases Int.lt_or_gt_of_ne (show a ≠ 0 by omega) with g | g
    · rw [sgn_neg a g _ lp, if_neg (by omega), abs_neg a g _ P e1]
      have : 0 < valOf D1 * 10 ^ P := Nat.mul_pos z1 pP
      rw [cmp3_lt (by omega), cmp3_lt (by omega)]
    · rw [sgn_pos a g _ lp, if_neg (by omega), abs_pos a g _ P e1]
      have : 0 < valOf D1 * 10 ^ P := Nat.mul_pos z1 pP
      rw [cmp3_gt (by omega), cmp3_gt (by omega)]
  · have lp1 : 0 < (X1 ++ []).length := by rw [List.append_nil]; exact List.length_pos_iff.2 m1
    have lp2 : 0 < (X2 ++ []).length := by rw [List.append_nil]; exact List.length_pos_iff.2 m2
    have hM := cmpM_val ((tl D1).length + p) ((tl D2).length + q) X1 X2 ((tl D1).length - X1.length + P) ((tl D2).length - X2.length + Q) 6 d1 d2 y1 y2 l1 l2 m1 m2 (by omega) (by omega)
    rw [Nat.pow_add, Nat.pow_add, ← Nat.mul_assoc, ← Nat.mul_assoc, v1, v2] at hM
    have q1 : 0 < valOf D1 * 10 ^ P := Nat.mul_pos z1 pP
    have q2 : 0 < valOf D2 * 10 ^ Q := Nat.mul_pos z2 pQ
    unfold cmpD
    rw [List.append_nil, List.append_nil] at *
    rw [hM]
    rcases Int.lt_or_gt_of_ne (show a ≠ 0 by omega) with g | g <;> rcases Int.lt_or_gt_of_ne (show b ≠ 0 by omega) with k | k
    · rw [sgn_neg a g _ lp1, sgn_neg b k _ lp2, if_pos rfl, abs_neg a g _ P e1, abs_neg b k _ Q e2]
      generalize valOf D1 * 10 ^ P = X at *
      generalize valOf D2 * 10 ^ Q = Y at *
      rcases Int.lt_trichotomy (X : Int) Y with h | h | h
      · rw [cmp3_lt h, cmp3_gt (by omega)]; rfl
      · rw [h, cmp3_self, cmp3_self]; rfl
      · rw [cmp3_gt h, cmp3_lt (by omega)]; rfl
    · rw [sgn_neg a g _ lp1, sgn_pos b k _ lp2, if_neg (by omega), abs_neg a g _ P e1, abs_pos b k _ Q e2]
      rw [cmp3_lt (by omega), cmp3_lt (by omega)]
    · rw [sgn_pos a g _ lp1, sgn_neg b k _ lp2, if_neg (by omega), abs_pos a g _ P e1, abs_neg b k _ Q e2]
      rw [cmp3_gt (by omega), cmp3_gt (by omega)]
    · rw [sgn_pos a g _ lp1, sgn_pos b k _ lp2, if_pos rfl, abs_pos a g _ P e1, abs_pos b k _ Q e2]
      omega
end Go.Proofs.Qxb6003914aDoor
