import Derived.Test.Qxb6003914aDoorW3
import Derived.Deep.QuietTactic
import Derived.BigQuiet
namespace Go.Proofs.Qxb6003914aDoor
open Go.RowKit

theorem ret_isb {a b : Int} {s t : ByteArray} {x : Bool} (h : a = b) (hs : s = t) : Ending.returned (.tuple #[.int .i64 a, .string s, .bool x]) = .returned (.tuple #[.int .i64 b, .string t, .bool x]) := by rw [h, hs]

theorem valOf_snoc (l : List UInt8) (c : UInt8) : valOf (l ++ [c]) = valOf l * 10 + (c.toNat - 48) := by
  induction l with
  | nil => simp [valOf]
  | cons a l ih =>
    simp only [List.cons_append, valOf, ih, List.length_append, List.length_cons, List.length_nil, Nat.zero_add, Nat.pow_succ]
    rw [Nat.add_mul, Nat.mul_assoc]; omega
theorem valOf_take_le (l : List UInt8) (k : Nat) : valOf (l.take k) ≤ valOf l := by
  induction l generalizing k with
  | nil => simp
  | cons a l ih =>
    cases k with
    | zero => simp [valOf]
    | succ k =>
      simp only [List.take_succ_cons, valOf]
      have h1 := ih k
      have h2 : (a.toNat - 48) * 10 ^ (l.take k).length ≤ (a.toNat - 48) * 10 ^ l.length :=
        Nat.mul_le_mul_left _ (Nat.pow_le_pow_right (by omega) (by simp; omega))
      omega
theorem skip_all (l : List UInt8) (h : ∀ c ∈ l, digB c = true) : skipN l = l.length := by
  induction l with
  | nil => rfl
  | cons a l ih =>
    have h1 := h a (by simp)
    have h2 := ih (fun c hc => h c (by simp [hc]))
    unfold skipN at h2 ⊢
    simp [h1, h2]

theorem dig_bd {c : UInt8} (h : digB c = true) : 48 ≤ (c.toNat : Int) ∧ (c.toNat : Int) ≤ 57 := by
  unfold digB at h; simp at h; omega

theorem mem_at (t : ByteArray) (k : Nat) (hk : k < t.size) : t[k] ∈ t.data.toList := by
  have : t[k] = t.data.toList[k]'(by simpa using hk) := rfl
  rw [this]; exact List.getElem_mem _

theorem val_next (t : ByteArray) (k : Nat) (hk : k < t.size) : valOf (t.data.toList.take (k + 1)) = valOf (t.data.toList.take k) * 10 + (t[k].toNat - 48) := by
  rw [List.take_succ_eq_append_getElem (by simpa using hk), valOf_snoc]; rfl

set_option maxHeartbeats 400000 in
theorem pexp_pos (u : ByteArray) (w : World) (h0 : 0 < u.size) (hs : u.size ≤ 1000000) (hd : ∀ c ∈ u.data.toList, digB c = true) (hv : valOf u.data.toList ≤ 1073741824) :
    Calls Tryd.prog 21 #[.string u] w fun e w' => e = .returned (.tuple #[.int .i64 (valOf u.data.toList), .string ⟨#[]⟩, .bool true]) ∧ ∃ n, w' = w.drewN n := by
  have d0 := dig_bd (hd _ (mem_at u 0 h0))
  have t43 : ((u[0].toNat : Int) == 43) = false := beq_eq_false_iff_ne.2 (by omega)
  have t45 : ((u[0].toNat : Int) == 45) = false := beq_eq_false_iff_ne.2 (by omega)
  have tz : ((u.size : Int) == 0) = false := beq_eq_false_iff_ne.2 (by omega)
  have hsk : skipN u.data.toList = u.size := by rw [skip_all _ hd]; simp
  have HV : Hid (valOf u.data.toList ≤ 1073741824) := hv
  have HD : Hid (∀ c ∈ u.data.toList, digB c = true) := hd
  have HS : Hid (skipN u.data.toList = u.size) := hsk
  clear hv hd hsk d0
  go_enter Tryd.func21, Tryd.ntmps21
  go_wp2_with (go_at_call 20; refine (skip_any _ _ (by unfold maxLen; omega)).mono ?_; rintro e w' ⟨rfl, rfl⟩; rw [HS.out])
  go_loop [7, 8, 33] (fun x _ i => ∃ (k m : Nat), k ≤ u.size ∧ i = .int .i64 k ∧ x = .int .i64 m ∧ m ≤ 1073741824 ∧ Hid (m = valOf (u.data.toList.take k))) (fun _ _ i => u.size - (intOf i).toNat)
  case atStart => exact ⟨0, 0, Nat.zero_le _, rfl, rfl, by omega, rfl⟩
  case round =>
    obtain ⟨k, m, hk, rfl, rfl, hm, HM⟩ := hrel
    by_cases hlt : k < u.size
    · have db := dig_bd (HD.out _ (mem_at u k hlt))
      have hnx := val_next u k hlt
      have hle := valOf_take_le u.data.toList (k + 1)
      have hvv := HV.out
      obtain ⟨c, hc⟩ : ∃ c : Nat, c = u[k].toNat := ⟨_, rfl⟩
      have hb : m * 10 + (c - 48) ≤ 1073741824 := by rw [HM.out]; omega
      have HN : Hid (m * 10 + (c - 48) = valOf (u.data.toList.take (k + 1))) := by rw [HM.out, hc]; exact hnx.symm
      have hb' : (m : Int) * 10 + ((u[k].toNat : Int) - 48) ≤ 1073741824 := by omega
      clear hnx hle hvv HM
      go_wp2
      exact ⟨⟨k + 1, m * 10 + (c - 48), by omega, by go_num, by congr 1; omega, hb, HN⟩, by simp [intOf]; omega⟩
    · have hk' : k = u.size := by omega
      have HE : Hid (m = valOf u.data.toList) := by
        have hm := HM.out
        rw [List.take_of_length_le (by simp; omega)] at hm
        exact hm
      have hx : u.extract u.size u.size = ⟨#[]⟩ := by simp; rfl
      clear HM hk'
      go_wp2
      go_quiet (fail)
      go_wp2
      go_ret3
      exact ⟨ret_isb (by rw [HE.out]) rfl, nq, rfl⟩
set_option maxHeartbeats 400000 in
theorem pexp_neg (t u : ByteArray) (w : World) (hu : t.extract 1 t.size = u) (ht : 0 < t.size) (h45 : ((t[0].toNat : Int) == 45) = true) (hts : t.size ≤ 1000001) (h0 : 0 < u.size) (hs : u.size ≤ 1000000) (hd : ∀ c ∈ u.data.toList, digB c = true) (hv : valOf u.data.toList ≤ 1073741824) :
    Calls Tryd.prog 21 #[.string t] w fun e w' => e = .returned (.tuple #[.int .i64 (-(valOf u.data.toList : Int)), .string ⟨#[]⟩, .bool true]) ∧ ∃ n, w' = w.drewN n := by
  have t43 : ((t[0].toNat : Int) == 43) = false := by rw [beq_iff_eq] at h45; rw [h45]; rfl
  have tz : ((u.size : Int) == 0) = false := beq_eq_false_iff_ne.2 (by omega)
  have hsk : skipN u.data.toList = u.size := by rw [skip_all _ hd]; simp
  have HV : Hid (valOf u.data.toList ≤ 1073741824) := hv
  have HD : Hid (∀ c ∈ u.data.toList, digB c = true) := hd
  have HS : Hid (skipN u.data.toList = u.size) := hsk
  clear hv hd hsk
  go_enter Tryd.func21, Tryd.ntmps21
  go_wp2_with (go_at_call 20; refine (skip_any _ _ (by unfold maxLen; omega)).mono ?_; rintro e w' ⟨rfl, rfl⟩; rw [HS.out])
  go_loop [7, 8, 33] (fun x _ i => ∃ (k m : Nat), k ≤ u.size ∧ i = .int .i64 k ∧ x = .int .i64 m ∧ m ≤ 1073741824 ∧ Hid (m = valOf (u.data.toList.take k))) (fun _ _ i => u.size - (intOf i).toNat)
  case atStart => exact ⟨0, 0, Nat.zero_le _, rfl, rfl, by omega, rfl⟩
  case round =>
    obtain ⟨k, m, hk, rfl, rfl, hm, HM⟩ := hrel
    by_cases hlt : k < u.size
    · have db := dig_bd (HD.out _ (mem_at u k hlt))
      have hnx := val_next u k hlt
      have hle := valOf_take_le u.data.toList (k + 1)
      have hvv := HV.out
      obtain ⟨c, hc⟩ : ∃ c : Nat, c = u[k].toNat := ⟨_, rfl⟩
      have hb : m * 10 + (c - 48) ≤ 1073741824 := by rw [HM.out]; omega
      have HN : Hid (m * 10 + (c - 48) = valOf (u.data.toList.take (k + 1))) := by rw [HM.out, hc]; exact hnx.symm
      have hb' : (m : Int) * 10 + ((u[k].toNat : Int) - 48) ≤ 1073741824 := by omega
      clear hnx hle hvv HM
      go_wp2
      exact ⟨⟨k + 1, m * 10 + (c - 48), by omega, by go_num, by congr 1; omega, hb, HN⟩, by simp [intOf]; omega⟩
    · have hk' : k = u.size := by omega
      have HE : Hid (m = valOf u.data.toList) := by
        have hm := HM.out
        rw [List.take_of_length_le (by simp; omega)] at hm
        exact hm
      have hx : u.extract u.size u.size = ⟨#[]⟩ := by simp; rfl
      clear HM hk'
      go_wp2
      go_quiet (fail)
      go_wp2
      go_ret3
      exact ⟨ret_isb (by rw [HE.out]) rfl, nq, rfl⟩
end Go.Proofs.Qxb6003914aDoor
