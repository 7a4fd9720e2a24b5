import Derived.Test.Qxb6003914aDoorW1
import Derived.Laws.IdiomStrings
namespace Go.Proofs.Qxb6003914aDoor
open Go.RowKit

/-- The number that a run of digits spells. -/
def valOf : List UInt8 → Nat
  | [] => 0
  | c :: l => (c.toNat - 48) * 10 ^ l.length + valOf l

/-- The cells of an array of bytes. -/
def bufC (l : List UInt8) : Array Value := (l.map (fun b => Value.int .u8 (b.toNat : Int))).toArray
theorem bufC_get (l : List UInt8) (k : Nat) (h : k < l.length) : (bufC l)[k]? = some (.int .u8 (l[k].toNat : Int)) := by
  simp [bufC, h]
theorem bufC_set (l : List UInt8) (k : Nat) (c : UInt8) : (bufC l).setIfInBounds k (.int .u8 (c.toNat : Int)) = bufC (l.set k c) := by
  simp [bufC, List.map_set]
theorem dig_byte (m : Nat) : ((UInt8.ofNat (48 + m % 10)).toNat : Int) = 48 + (m : Int) % 10 := by
  simp [UInt8.toNat_ofNat']; omega

theorem drop_set (l : List UInt8) (k : Nat) (c : UInt8) (h : k ≤ l.length) (hk : 1 ≤ k) : (l.set (k - 1) c).drop (k - 1) = c :: l.drop k := by
  rw [List.drop_eq_getElem_cons (by simp; omega)]
  simp
  rw [show k - 1 + 1 = k by omega]
  rw [List.drop_set_of_lt (by omega)]

theorem buf_cell (w : World) (l : List UInt8) (k j : Nat) (h : k + j < l.length) : (w.alloc (.cells (bufC l) 39)).cell? ((⟨w.heap.size, k, none⟩ : Addr).add j) = some (.int .u8 ((l.drop k)[j]'(by simp; omega)).toNat) := by
  have e : (⟨w.heap.size, k, none⟩ : Addr).add j = ⟨w.heap.size, k + j, none⟩ := by unfold Addr.add; split <;> simp_all
  rw [e]
  simp [bufC, h]

theorem len39 : Tryd.prog.arrayLen 39 = 24 := by kernel_rfl
theorem el39 : Tryd.prog.elem 39 = 5 := by kernel_rfl
theorem size5 (w : World) : (sizeOf 5).run Tryd.prog w = .ok 1 w := by kernel_rfl
theorem buf_slice (W : World) (b : Nat) (x : Int) (k : Nat) (hx : x = k) (hk : k < 24) :
    (Instr.sliceAt 39 (.pointer (some ⟨b, 0, none⟩)) (some (.int .i64 x)) none none).run Tryd.prog W = .ok (.slice (some ⟨b, k, none⟩) (24 - k) (24 - k)) W := by
  subst hx
  have e : (⟨b, 0, none⟩ : Addr).add k = ⟨b, k, none⟩ := by unfold Addr.add; split <;> simp_all
  rw [run_sliceAt_array_l W 39 _ (by rw [len39, el39]; exact Tryd.underlying39) .i64 k (by omega) (by rw [len39]; omega), el39, size5, len39]
  have h : ¬ 24 = k := by omega
  simp [slicedAt, Result.andThen, h, e]

/-- What the loop keeps. -/
def Kept (v m k : Nat) (l : List UInt8) : Prop := l.length = 24 ∧ 5 ≤ k ∧ k ≤ 24 ∧ (∀ c ∈ l.drop k, digB c = true) ∧ m * 10 ^ (24 - k) + valOf (l.drop k) = v
theorem kept_start (v : Nat) : Kept v v 24 (List.replicate 24 0) := by
  refine ⟨by simp, by omega, by omega, ?_, ?_⟩ <;> simp [valOf]
theorem kept_lt (v m k : Nat) (l : List UInt8) (h : Kept v m k l) (hv : v < 10 ^ 19) (hm : 0 < m) : 6 ≤ k := by
  obtain ⟨_, h5, h24, _, he⟩ := h
  apply Decidable.byContradiction
  intro hc
  have hk : k = 5 := by omega
  subst hk
  have : 1 * 10 ^ 19 ≤ m * 10 ^ 19 := Nat.mul_le_mul_right _ hm
  simp only [Nat.reduceSub] at he
  omega
theorem kept_round (v m k : Nat) (l : List UInt8) (h : Kept v m k l) (hk : 6 ≤ k) : Kept v (m / 10) (k - 1) (l.set (k - 1) (UInt8.ofNat (48 + m % 10))) := by
  obtain ⟨hl, h5, h24, hd, he⟩ := h
  refine ⟨by simpa using hl, by omega, by omega, ?_, ?_⟩
  · rw [drop_set l k _ (by omega) (by omega)]
    intro c hc
    rcases List.mem_cons.1 hc with rfl | hc
    · unfold digB
      have := dig_byte m
      have h2 : (UInt8.ofNat (48 + m % 10)).toNat = 48 + m % 10 := by omega
      rw [h2]; simp; omega
    · exact hd c hc
  · rw [drop_set l k _ (by omega) (by omega)]
    have := dig_byte m
    have h2 : (UInt8.ofNat (48 + m % 10)).toNat = 48 + m % 10 := by omega
    have h3 : (l.drop k).length = 24 - k := by simp [hl]
    simp only [valOf, h2, h3]
    rw [show 24 - (k - 1) = (24 - k) + 1 by omega, Nat.pow_succ, ← he]
    have h4 : 48 + m % 10 - 48 = m % 10 := by omega
    rw [h4]
    generalize 10 ^ (24 - k) = q
    have h5 : m / 10 * (q * 10) + m % 10 * q = (m / 10 * 10 + m % 10) * q := by
      rw [Nat.add_mul, Nat.mul_assoc, Nat.mul_comm q 10]
    have h6 : m / 10 * 10 + m % 10 = m := by omega
    rw [← Nat.add_assoc, h5, h6]

set_option maxHeartbeats 400000 in
theorem itoa_pos (v : Nat) (w : World) (h0 : 0 < v) (h1 : v ≤ 2147483648) :
    Calls Tryd.prog 8 #[.int .i64 v] w fun e w' => ∃ D : List UInt8, e = .returned (.string ⟨D.toArray⟩) ∧ D ≠ [] ∧ (∀ c ∈ D, digB c = true) ∧ valOf D = v ∧ D.length ≤ 19 ∧ Below w.heap.size w w' := by
  have t0 : ((v : Int) == 0) = false := beq_eq_false_iff_ne.2 (by omega)
  have t1 : decide ((v : Int) < 0) = false := by simp
  go_enter Tryd.func8, Tryd.ntmps8
  go_wp2
  go_loopw [4, 6] (fun u i wr => ∃ (k m : Nat) (l : List UInt8), i = .int .i64 k ∧ u = .int .u64 m ∧ m ≤ 2147483648 ∧ Kept v m k l ∧ wr = w.alloc (.cells (bufC l) 39)) (fun u _ _ => (intOf u).toNat)
  case atStart => exact ⟨24, v, List.replicate 24 0, rfl, rfl, h1, kept_start v, rfl⟩
  case round =>
    obtain ⟨k, m, l, rfl, rfl, hm, hK, rfl⟩ := hrel
    have hl : l.length = 24 := hK.1
    have hk24 : k ≤ 24 := hK.2.2.1
    have hk5 : 5 ≤ k := hK.2.1
    by_cases hlt : 0 < m
    · have hk1 : 6 ≤ k := kept_lt v m k l hK (by omega) hlt
      obtain ⟨x0, hget⟩ : ∃ x, (bufC l)[k - 1]? = some x := ⟨_, bufC_get l (k - 1) (by omega)⟩
      clear hl
      go_wp2
      rw [← dig_byte m, bufC_set]
      exact ⟨⟨k - 1, m / 10, _, by go_num, by go_num, by omega, kept_round v m k l hK hk1, rfl⟩, by simp [intOf]; omega⟩
    · have hm0 : m = 0 := by omega
      have hk23 : k < 24 := by
        apply Decidable.byContradiction
        intro hc
        have hk : k = 24 := by omega
        have he := hK.2.2.2.2
        rw [hm0, hk, List.drop_of_length_le (by omega)] at he
        simp [valOf] at he
        omega
      have hsl := buf_slice (w.alloc (.cells (bufC l) 39)) w.heap.size k k rfl hk23
      have hcv : ∀ cap, (convert 40 9 (.slice (some ⟨w.heap.size, k, none⟩) (24 - k) cap)).run Tryd.prog (w.alloc (.cells (bufC l) 39)) = .ok (.string ⟨(l.drop k).toArray⟩) (w.alloc (.cells (bufC l) 39)) := by
        intro cap
        have e : 24 - k = (l.drop k).length := by simp; omega
        rw [e]
        exact run_convert_bytes_back _ 40 9 5 _ cap (l.drop k) Tryd.underlying40 Tryd.underlying5 Tryd.underlying9 (fun j hj => buf_cell w l k j (by simp at hj; omega))
      have hD : (l.drop k).length ≤ 19 := by simp; omega
      have hv : valOf (l.drop k) = v := by have he := hK.2.2.2.2; rw [hm0] at he; simpa using he
      have hne : l.drop k ≠ [] := fun h => by rw [h] at hv; simp [valOf] at hv; omega
      have hdd := hK.2.2.2.1
      have HF : Hid (l.drop k ≠ [] ∧ (∀ c ∈ l.drop k, digB c = true) ∧ valOf (l.drop k) = v ∧ (l.drop k).length ≤ 19) := ⟨hne, hdd, hv, hD⟩
      clear hl hm0 hD hv hne hdd
      go_wp2
      go_ret
      exact ⟨l.drop k, rfl, HF.out.1, HF.out.2.1, HF.out.2.2.1, HF.out.2.2.2, (Below.refl _ _).alloc (Nat.le_refl _) _⟩
set_option maxHeartbeats 400000 in
theorem itoa_neg (v : Nat) (w : World) (h0 : 0 < v) (h1 : v ≤ 2147483648) :
    Calls Tryd.prog 8 #[.int .i64 (-(v : Int))] w fun e w' => ∃ D : List UInt8, e = .returned (.string ⟨(45 :: D).toArray⟩) ∧ D ≠ [] ∧ (∀ c ∈ D, digB c = true) ∧ valOf D = v ∧ D.length ≤ 19 ∧ Below w.heap.size w w' := by
  have t0 : ((-(v : Int)) == 0) = false := beq_eq_false_iff_ne.2 (by omega)
  have t1 : decide (-(v : Int) < 0) = true := by simp; omega
  go_enter Tryd.func8, Tryd.ntmps8
  go_wp2
  go_loopw [4, 6] (fun u i wr => ∃ (k m : Nat) (l : List UInt8), i = .int .i64 k ∧ u = .int .u64 m ∧ m ≤ 2147483648 ∧ Kept v m k l ∧ wr = w.alloc (.cells (bufC l) 39)) (fun u _ _ => (intOf u).toNat)
  case atStart => exact ⟨24, v, List.replicate 24 0, rfl, by congr 1; omega, h1, kept_start v, rfl⟩
  case round =>
    obtain ⟨k, m, l, rfl, rfl, hm, hK, rfl⟩ := hrel
    have hl : l.length = 24 := hK.1
    have hk24 : k ≤ 24 := hK.2.2.1
    have hk5 : 5 ≤ k := hK.2.1
    by_cases hlt : 0 < m
    · have hk1 : 6 ≤ k := kept_lt v m k l hK (by omega) hlt
      obtain ⟨x0, hget⟩ : ∃ x, (bufC l)[k - 1]? = some x := ⟨_, bufC_get l (k - 1) (by omega)⟩
      clear hl
      go_wp2
      rw [← dig_byte m, bufC_set]
      exact ⟨⟨k - 1, m / 10, _, by go_num, by go_num, by omega, kept_round v m k l hK hk1, rfl⟩, by simp [intOf]; omega⟩
    · have hm0 : m = 0 := by omega
      have hk23 : k < 24 := by
        apply Decidable.byContradiction
        intro hc
        have hk : k = 24 := by omega
        have he := hK.2.2.2.2
        rw [hm0, hk, List.drop_of_length_le (by omega)] at he
        simp [valOf] at he
        omega
      have hsl := fun W => buf_slice W w.heap.size ((k : Int) - 1) (k - 1) (by omega) (by omega)
      obtain ⟨x0, hget⟩ : ∃ x, (bufC l)[k - 1]? = some x := ⟨_, bufC_get l (k - 1) (by omega)⟩
      have hst : (bufC l).setIfInBounds (k - 1) (.int .u8 45) = bufC (l.set (k - 1) 45) := bufC_set l (k - 1) 45
      have hcv : ∀ cap, (convert 40 9 (.slice (some ⟨w.heap.size, k - 1, none⟩) (24 - (k - 1)) cap)).run Tryd.prog (w.alloc (.cells (bufC (l.set (k - 1) 45)) 39)) = .ok (.string ⟨(45 :: l.drop k).toArray⟩) (w.alloc (.cells (bufC (l.set (k - 1) 45)) 39)) := by
        intro cap
        have e0 := drop_set l k 45 (by omega) (by omega)
        have e : 24 - (k - 1) = ((l.set (k - 1) 45).drop (k - 1)).length := by simp; omega
        rw [e, ← e0]
        exact run_convert_bytes_back _ 40 9 5 _ cap ((l.set (k - 1) 45).drop (k - 1)) Tryd.underlying40 Tryd.underlying5 Tryd.underlying9 (fun j hj => buf_cell w (l.set (k - 1) 45) (k - 1) j (by simp at hj ⊢; omega))
      have hD : (l.drop k).length ≤ 19 := by simp; omega
      have hv : valOf (l.drop k) = v := by have he := hK.2.2.2.2; rw [hm0] at he; simpa using he
      have hne : l.drop k ≠ [] := fun h => by rw [h] at hv; simp [valOf] at hv; omega
      have hdd := hK.2.2.2.1
      have HF : Hid (l.drop k ≠ [] ∧ (∀ c ∈ l.drop k, digB c = true) ∧ valOf (l.drop k) = v ∧ (l.drop k).length ≤ 19) := ⟨hne, hdd, hv, hD⟩
      clear hl hm0 hD hv hne hdd
      go_wp2
      go_ret
      exact ⟨l.drop k, rfl, HF.out.1, HF.out.2.1, HF.out.2.2.1, HF.out.2.2.2, (Below.refl _ _).alloc (Nat.le_refl _) _⟩

set_option maxHeartbeats 400000 in
theorem itoa_zero (w : World) :
    Calls Tryd.prog 8 #[.int .i64 0] w fun e w' => e = .returned (.string ⟨#[48]⟩) ∧ w' = w := by
  go_enter Tryd.func8, Tryd.ntmps8
  go_wp2
  go_ret
  exact ⟨rfl, rfl⟩

/-- The text of a number. -/
def Spells (s : List UInt8) (v : Int) : Prop := ∃ D : List UInt8, D ≠ [] ∧ (∀ c ∈ D, digB c = true) ∧ D.length ≤ 19 ∧ ((0 ≤ v ∧ s = D ∧ (valOf D : Int) = v) ∨ (v < 0 ∧ s = 45 :: D ∧ (valOf D : Int) = -v))

/-- zzItoa. -/
theorem itoa_any (v : Int) (w : World) (h0 : -2147483648 ≤ v) (h1 : v ≤ 2147483648) :
    Calls Tryd.prog 8 #[.int .i64 v] w fun e w' => ∃ S : List UInt8, e = .returned (.string ⟨S.toArray⟩) ∧ Spells S v ∧ Below w.heap.size w w' := by
  rcases Int.lt_trichotomy v 0 with h | rfl | h
  · obtain ⟨n, hn⟩ := Int.eq_ofNat_of_zero_le (show 0 ≤ -v by omega)
    have e : v = -(n : Int) := by omega
    subst e
    refine (itoa_neg n w (by omega) (by omega)).mono ?_
    rintro e w' ⟨D, rfl, h1, h2, h3, h4, h5⟩
    exact ⟨_, rfl, ⟨D, h1, h2, h4, .inr ⟨h, rfl, by omega⟩⟩, h5⟩
  · refine (itoa_zero w).mono ?_
    rintro e w' ⟨rfl, rfl⟩
    exact ⟨[48], rfl, ⟨[48], by simp, by simp [digB], by simp, .inl ⟨Int.le_refl _, rfl, rfl⟩⟩, Below.refl _ _⟩
  · obtain ⟨n, rfl⟩ := Int.eq_ofNat_of_zero_le (show 0 ≤ v by omega)
    refine (itoa_pos n w (by omega) (by omega)).mono ?_
    rintro e w' ⟨D, rfl, h1, h2, h3, h4, h5⟩
    exact ⟨_, rfl, ⟨D, h1, h2, h4, .inl ⟨by omega, rfl, by omega⟩⟩, h5⟩
end Go.Proofs.Qxb6003914aDoor
