import Derived.Test.Qxb6605569aDoorW3
import Derived.KernelRfl
import Derived.Lib.Case
namespace Go.Proofs.Qxb6605569aDoor
open Go.RowKit Go.Lib
def toB (z : Int) : UInt8 := UInt8.ofNat z.toNat
theorem toB_toNat {z : Int} (h : 0 ≤ z ∧ z ≤ 255) : ((toB z).toNat : Int) = z := by
  unfold toB
  simp
  omega
def spg (f : Nat → Int) : Nat → List Int
  | 0 => []
  | d + 1 => spg f d ++ (pre d ++ [f d])
theorem sp_g (A : List Int) (u : Int) : ∀ d, sp A u d = spg (dig A u) d
  | 0 => rfl
  | d + 1 => by rw [sp, spg, sp_g A u d]
theorem spg_pos (f : Nat → Int) : spg f 32 = (List.range 36).map (fun k => if isHy k then 45 else f (dpos k)) := by
  kernel_rfl
theorem sp_pos (A : List Int) (u : Int) : sp A u 32 = (List.range 36).map (fun k => if isHy k then 45 else dig A u (dpos k)) := by
  rw [sp_g, spg_pos]
theorem dig0 (A : List Int) (d : Nat) : dig A 0 d = if nib A d < 10 then 48 + nib A d else 87 + nib A d := by
  unfold dig
  rw [Int.zero_ediv, if_neg (show ¬ (bits BinOp.and IntKind.u32 0 1 == 1) = true by decide)]
  split
  · rfl
  · omega
theorem low_dig {A : List Int} (hA : Oct A) (u : Int) (d : Nat) : lowerB (toB (dig A u d)) = toB (dig A 0 d) := by
  rw [dig0]
  unfold dig
  have hn := nib_bd hA d
  generalize nib A d = n at hn
  by_cases h : n < 10
  · rw [if_pos h, if_pos h]
    have : n = 0 ∨ n = 1 ∨ n = 2 ∨ n = 3 ∨ n = 4 ∨ n = 5 ∨ n = 6 ∨ n = 7 ∨ n = 8 ∨ n = 9 := by omega
    rcases this with rfl | rfl | rfl | rfl | rfl | rfl | rfl | rfl | rfl | rfl <;> decide
  · rw [if_neg h, if_neg h]
    have : n = 10 ∨ n = 11 ∨ n = 12 ∨ n = 13 ∨ n = 14 ∨ n = 15 := by omega
    split
    · rcases this with rfl | rfl | rfl | rfl | rfl | rfl <;> decide
    · rcases this with rfl | rfl | rfl | rfl | rfl | rfl <;> decide
theorem low_sp {A : List Int} (hA : Oct A) (u : Int) : toLowerA ((sp A u 32).map toB) = (sp A 0 32).map toB := by
  rw [sp_pos, sp_pos]
  unfold toLowerA
  rw [List.map_map, List.map_map, List.map_map]
  apply List.map_congr_left
  intro k _
  simp only [Function.comp]
  split
  · decide
  · exact low_dig hA u _
theorem ba_get (l : List UInt8) (k : Nat) (h' : k < l.length) : (⟨l.toArray⟩ : ByteArray)[k]'h' = l[k] := rfl
theorem t_at (t : ByteArray) (l : List UInt8) (e : t = ⟨l.toArray⟩) (k : Nat) (h : k < t.size) (c : UInt8) (h' : l[k]? = some c) : t[k] = c := by
  subst e
  obtain ⟨hk, e⟩ := List.getElem?_eq_some_iff.1 h'
  rw [← e]
  exact ba_get l k hk
/-- The spelling as a string. -/
def str (A : List Int) (u : Int) : ByteArray := ⟨((sp A u 32).map fun z => UInt8.ofNat z.toNat).toArray⟩
theorem str_size (A : List Int) (u : Int) : (str A u).size = 36 := by
  show (((sp A u 32).map fun z => UInt8.ofNat z.toNat).toArray).size = 36
  rw [sp_pos]
  simp
theorem str_eq (A : List Int) (u : Int) : str A u = ⟨((List.range 36).map fun k => toB (if isHy k then 45 else dig A u (dpos k))).toArray⟩ := by
  unfold str
  rw [sp_pos, List.map_map]
  rfl
theorem char_bd {A : List Int} (hA : Oct A) (u : Int) (k : Nat) : 0 ≤ (if isHy k then 45 else dig A u (dpos k)) ∧ (if isHy k then 45 else dig A u (dpos k)) ≤ 255 := by
  split
  · omega
  · have := dig_bd hA u (dpos k)
    omega
theorem lt36 {n k : Nat} (e : n = 36) (h : k < n) : k < 36 := by omega
theorem str_at {A : List Int} (hA : Oct A) (u : Int) (k : Nat) (h : k < (str A u).size) : (((str A u)[k]).toNat : Int) = if isHy k then 45 else dig A u (dpos k) :=
  (congrArg (fun c : UInt8 => (c.toNat : Int)) (t_at _ _ (str_eq A u) k h (toB (if isHy k then 45 else dig A u (dpos k))) (by rw [List.getElem?_map, List.getElem?_range (lt36 (str_size A u) h)]; rfl))).trans (toB_toNat (char_bd hA u k))
theorem str_canon {A : List Int} (hA : Oct A) (u : Int) : Canon (str A u) := by
  refine ⟨str_size A u, fun k h => ?_⟩
  rw [str_at hA u k h]
  refine ⟨fun hy => by rw [if_pos hy], fun hy => ?_⟩
  rw [if_neg hy]
  have hn := nib_bd hA (dpos k)
  unfold dig Hex
  split
  · omega
  · split <;> omega
theorem str_low {A : List Int} (hA : Oct A) : Low A (str A 0) := by
  refine ⟨str_size A 0, fun k h => ?_⟩
  rw [str_at hA 0 k h]
  refine ⟨fun hy => by rw [if_pos hy], fun hy => ?_⟩
  rw [if_neg hy, dig0]
theorem str_lower {A : List Int} (hA : Oct A) (u : Int) : (⟨(Lib.toLowerA (str A u).data.toList).toArray⟩ : ByteArray) = str A 0 := by
  have := low_sp hA u
  unfold str
  show (⟨(Lib.toLowerA ((sp A u 32).map toB).toArray.toList).toArray⟩ : ByteArray) = ⟨((sp A 0 32).map toB).toArray⟩
  rw [List.toList_toArray, this]
end Go.Proofs.Qxb6605569aDoor
