import Derived.Test.Qxb6605199aDoorW2
namespace Go.Proofs.Qxb6605199aDoor
open Go.RowKit Go.Lib

/-- The two letters of one letter, in the two cases. -/
def pair (b c : Int) : Prop := (65 ≤ c ∧ c ≤ 90 ∧ b = c + 32) ∨ (65 ≤ b ∧ b ≤ 90 ∧ c = b + 32)
instance (b c : Int) : Decidable (pair b c) := by unfold pair; infer_instance
/-- bytes.EqualFold at an ASCII pattern without k. -/
def ef : List UInt8 → List UInt8 → Bool
  | l, [] => l.isEmpty
  | [], _ :: _ => false
  | b :: l, c :: p =>
    if (b.toNat : Int) = c.toNat then ef l p
    else if pair b.toNat c.toNat then ef l p
    else if ((c.toNat : Int) = 83 ∨ (c.toNat : Int) = 115) ∧ (b.toNat : Int) = 197 ∧ 0 < l.length ∧ ba l 0 = 191 then ef (l.drop 1) p
    else false
theorem ef_nil (l : List UInt8) : ef l [] = l.isEmpty := by cases l <;> rfl
theorem ef_short (c : UInt8) (p : List UInt8) : ef [] (c :: p) = false := rfl
theorem ef_step (l p : List UInt8) (j i : Nat) (hj : j < l.length) (hi : i < p.length) : ef (l.drop j) (p.drop i) =
    if ba l j = ba p i then ef (l.drop (j + 1)) (p.drop (i + 1))
    else if pair (ba l j) (ba p i) then ef (l.drop (j + 1)) (p.drop (i + 1))
    else if (ba p i = 83 ∨ ba p i = 115) ∧ ba l j = 197 ∧ j + 1 < l.length ∧ ba l (j + 1) = 191 then ef (l.drop (j + 2)) (p.drop (i + 1))
    else false := by
  rw [drop_cons l j hj, drop_cons p i hi, ef, ba_drop l (j + 1) 0, List.drop_drop]
  have e : (0 < (l.drop (j + 1)).length) = (j + 1 < l.length) := by simp; omega
  simp only [e]
  rfl
theorem ite_or {a b : Prop} [Decidable a] [Decidable b] (t r : Bool) : (if a then t else if b then t else r) = if a ∨ b then t else r := by
  by_cases ha : a
  · rw [if_pos ha, if_pos (.inl ha)]
  · by_cases hb : b
    · rw [if_neg ha, if_pos hb, if_pos (.inr hb)]
    · rw [if_neg ha, if_neg hb, if_neg (fun h => h.elim ha hb)]
/-- One sign of the pattern: c in the one, C (a capital, or no letter) in the other. -/
theorem ef_sp {c C : UInt8} {p P : List UInt8} (ih : ∀ l, ef l p = sp l P)
    (h : ((65 : Int) ≤ C.toNat ∧ (C.toNat : Int) ≤ 90 ∧ ((c.toNat : Int) = C.toNat ∨ (c.toNat : Int) = C.toNat + 32)) ∨ ((c.toNat : Int) = C.toNat ∧ (C.toNat : Int) < 65)) : ∀ l, ef l (c :: p) = sp l (C :: P)
  | [] => rfl
  | b :: l => by
    rw [ef, sp, ih l, ih (l.drop 1)]
    generalize (b.toNat : Int) = x at *
    generalize (c.toNat : Int) = y at *
    generalize (C.toNat : Int) = z at *
    have e1 : (x = y ∨ pair x y) ↔ (x = z ∨ (65 ≤ z ∧ z ≤ 90 ∧ x = z + 32)) := by unfold pair; omega
    have e3 : (y = 83 ∨ y = 115) ↔ z = 83 := by omega
    rw [ite_or, ite_or]
    simp only [e1, e3]
/-- "POST". -/
def post : List UInt8 := [80, 79, 83, 84]
/-- "Host:", "HOST:". -/
def host : List UInt8 := [72, 111, 115, 116, 58]
def HOST : List UInt8 := [72, 79, 83, 84, 58]
theorem ef_post : ∀ l, ef l post = sp l post :=
  ef_sp (ef_sp (ef_sp (ef_sp (fun l => by rw [ef_nil, sp_nil]) (by decide)) (by decide)) (by decide)) (by decide)
theorem ef_host : ∀ l, ef l host = sp l HOST :=
  ef_sp (ef_sp (ef_sp (ef_sp (ef_sp (fun l => by rw [ef_nil, sp_nil]) (by decide)) (by decide)) (by decide)) (by decide)) (by decide)
end Go.Proofs.Qxb6605199aDoor
