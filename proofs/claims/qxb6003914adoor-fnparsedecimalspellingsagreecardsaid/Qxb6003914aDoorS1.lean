import Derived.Test.Qxb6003914aDoorW9
import Derived.Deep.OwnRows
namespace Go.Proofs.Qxb6003914aDoor
open Go.RowKit

/-- Is every byte a digit? -/
def allDg (l : List UInt8) : Bool := l.all digB

theorem all_take (s : ByteArray) (k : Nat) (h : AllD s.data.toList k) (hk : ¬ k < s.size) : allDg s.data.toList = true := by
  unfold allDg
  rw [List.all_eq_true]
  intro c hc
  obtain ⟨i, hi, rfl⟩ := List.getElem_of_mem hc
  exact h i hi (by simp at hi; omega)
theorem all_not (s : ByteArray) (k : Nat) (hk : k < s.size) (h : digB s[k] = false) : allDg s.data.toList = false := by
  unfold allDg
  rw [List.all_eq_false]
  exact ⟨s[k], mem_at s k hk, by rw [h]; simp⟩

set_option maxHeartbeats 400000 in
/-- zzIsDigit. -/
theorem isdig_any (c : UInt8) (w : World) : Calls Tryd.prog 17 #[.int .u8 c.toNat] w fun e w' => e = .returned (.bool (digB c)) ∧ w' = w := by
  by_cases h1 : 48 ≤ (c.toNat : Int)
  · by_cases h2 : (c.toNat : Int) ≤ 57
    · have h : Hid (digB c = true) := by show digB c = true; unfold digB; simp; omega
      go_enter Tryd.func17, Tryd.ntmps17
      go_wp2
      go_ret
      exact ⟨by rw [h.out]; simp, rfl⟩
    · have h : Hid (digB c = false) := by show digB c = false; unfold digB; simp; omega
      have h3 : 57 < (c.toNat : Int) := by omega
      go_enter Tryd.func17, Tryd.ntmps17
      go_wp2
      go_ret
      exact ⟨by rw [h.out]; simp, rfl⟩
  · have h : Hid (digB c = false) := by show digB c = false; unfold digB; simp; omega
    have h3 : (c.toNat : Int) < 48 := by omega
    go_enter Tryd.func17, Tryd.ntmps17
    go_wp2
    go_ret
    exact ⟨by rw [h.out]; simp, rfl⟩

set_option maxHeartbeats 400000 in
/-- zzIsDigits. -/
theorem isdigs_any (s : ByteArray) (w : World) (hs : s.size ≤ maxLen) : Calls Tryd.prog 7 #[.string s] w fun e w' => e = .returned (.bool (allDg s.data.toList)) ∧ w' = w := by
  unfold maxLen at hs
  go_enter Tryd.func7, Tryd.ntmps7
  go_wp2
  go_loop [3] (fun n => ∃ k : Nat, k ≤ s.size ∧ n = .int .i64 k ∧ AllD s.data.toList k) (fun n => s.size - (intOf n).toNat)
  case atStart => exact ⟨0, Nat.zero_le _, rfl, allD_zero _⟩
  case round =>
    obtain ⟨k, hk, rfl, hall⟩ := hrel
    by_cases hlt : k < s.size
    · cases hd : digB s[k]
      · have HD := Hid.mk (all_not s k hlt hd)
        go_wp2_with (go_at_call 17; refine (isdig_any _ _).mono ?_; rintro e w' ⟨rfl, rfl⟩)
        go_ret
        exact ⟨by rw [HD.out]; rfl, rfl⟩
      · have HB := dig_bd hd
        go_wp2_with (go_at_call 17; refine (isdig_any _ _).mono ?_; rintro e w' ⟨rfl, rfl⟩)
        exact ⟨⟨k + 1, by omega, by go_num, allD_succ s k hall hlt HB.1 HB.2⟩, by simp [intOf]; omega⟩
    · have HD := Hid.mk (all_take s k hall hlt)
      go_wp2
      go_ret
      exact ⟨by rw [HD.out]; rfl, rfl⟩

set_option maxHeartbeats 400000 in
/-- ZZDecimalParts. -/
theorem parts_any (ng : Bool) (a b : ByteArray) (p : Int) (w : World) :
    Calls Tryd.prog 11 #[.agg #[.bool ng, .string a, .string b, .int .i64 p]] w fun e w' => e = .returned (.tuple #[.bool ng, .string a, .string b, .int .i64 p]) ∧ Below w.heap.size w w' := by
  go_enter Tryd.func11, Tryd.ntmps11
  go_wp2
  go_quiet (fail)
  go_wp2
  go_returns
  exact ⟨rfl, below_drewN ((Below.refl _ _).alloc (Nat.le_refl _) _) _⟩

theorem Tryd.info5 : (Tryd.prog.info? 5).map (fun i => (i.zero, i.size, i.bytes)) = some (some (.int .u8 0), 1, 1) := by kernel_rfl
theorem made_buf (n : Nat) : madeCells #[.int .u8 0] n = bufC (List.replicate n 0) := by
  apply Array.ext
  · rw [size_madeCells]; simp [bufC]
  · intro i h1 h2
    simp [madeCells, bufC, Nat.mod_one]
theorem row_cell (w : World) (l : List UInt8) (t : TypeId) (j : Nat) (h : j < l.length) : (w.alloc (.cells (bufC l) t)).cell? ((⟨w.heap.size, 0, none⟩ : Addr).add j) = some (.int .u8 (l[j].toNat : Int)) := by
  have e : (⟨w.heap.size, 0, none⟩ : Addr).add j = ⟨w.heap.size, j, none⟩ := by unfold Addr.add; split <;> simp_all
  rw [e]
  simp [bufC, h]
/-- k bytes '0', the rest not yet written. -/
def zk (n k : Nat) : List UInt8 := List.replicate k 48 ++ List.replicate (n - k) 0
theorem zk_len (n k : Nat) (h : k ≤ n) : (zk n k).length = n := by simp [zk]; omega
theorem zk_set (n k : Nat) (h : k < n) : (zk n k).set k 48 = zk n (k + 1) := by
  unfold zk
  rw [List.set_append_right _ _ (by simp)]
  rw [show n - k = (n - (k + 1)) + 1 by omega, List.replicate_succ, List.replicate_succ']
  simp

set_option maxHeartbeats 400000 in
/-- zzZeros. -/
theorem zeros_any (n : Nat) (w : World) (hn : n ≤ 64) :
    Calls Tryd.prog 9 #[.int .i64 n] w fun e w' => e = .returned (.string ⟨(List.replicate n 48).toArray⟩) ∧ Below w.heap.size w w' := by
  have hmk := run_make_row' (P := Tryd.prog) 40 5 (.int .u8 0) 1 Tryd.underlying40 Tryd.info5 rfl .i64 .i64 n (by omega) (by omega) w
  rw [made_buf] at hmk
  go_enter Tryd.func9, Tryd.ntmps9
  go_wp2
  go_loopw [4] (fun i wr => ∃ k : Nat, k ≤ n ∧ i = .int .i64 k ∧ wr = w.alloc (.cells (bufC (zk n k)) 5)) (fun i _ => n - (intOf i).toNat)
  case atStart => exact ⟨0, Nat.zero_le _, rfl, by simp [zk]⟩
  case round =>
    obtain ⟨k, hk, rfl, rfl⟩ := hrel
    clear hmk
    by_cases hlt : k < n
    · obtain ⟨x0, hget⟩ : ∃ x, (bufC (zk n k))[k]? = some x := ⟨_, bufC_get _ k (by rw [zk_len n k hk]; exact hlt)⟩
      go_wp2
      have e : (bufC (zk n k)).setIfInBounds k (.int .u8 48) = bufC (zk n (k + 1)) := by rw [← zk_set n k hlt]; exact bufC_set _ k 48
      exact ⟨⟨k + 1, by omega, by go_num, by rw [e]⟩, by simp [intOf]; omega⟩
    · have hk' : k = n := by omega
      have hcv : ∀ cap, (convert 40 9 (.slice (some ⟨w.heap.size, 0, none⟩) n cap)).run Tryd.prog (w.alloc (.cells (bufC (zk n k)) 5)) = .ok (.string ⟨(List.replicate n 48).toArray⟩) (w.alloc (.cells (bufC (zk n k)) 5)) := by
        intro cap
        have e : zk n k = List.replicate n 48 := by subst hk'; simp [zk]
        rw [e]
        have := run_convert_bytes_back (P := Tryd.prog) (w.alloc (.cells (bufC (List.replicate n 48)) 5)) 40 9 5 ⟨w.heap.size, 0, none⟩ cap (List.replicate n 48) Tryd.underlying40 Tryd.underlying5 Tryd.underlying9 (fun j hj => row_cell w _ 5 j hj)
        simpa using this
      clear hk'
      go_wp2
      go_ret
      exact ⟨rfl, (Below.refl _ _).alloc (Nat.le_refl _) _⟩

theorem tl_app (Z A : List UInt8) (hz : ∀ c ∈ Z, c = 48) (hA : NoL A) : tl (Z ++ A) = A := by
  induction Z with
  | nil =>
    cases A with
    | nil => rfl
    | cons a A =>
      have := hA a rfl
      simp [tl, Lib.trimLeftB, this]
  | cons z Z ih =>
    have hz0 : z = 48 := hz z (by simp)
    have := ih (fun c hc => hz c (by simp [hc]))
    unfold tl Lib.trimLeftB at this ⊢
    rw [List.cons_append, List.dropWhile_cons, hz0]
    simpa using this
theorem tr_app (A Z : List UInt8) (hz : ∀ c ∈ Z, c = 48) (hA : NoZ A) : tr (A ++ Z) = A := by
  have e : tr (A ++ Z) = (tl (A ++ Z).reverse).reverse := rfl
  rw [e, List.reverse_append, tl_app Z.reverse A.reverse (fun c hc => hz c (by simpa using hc)) (fun c hc => hA c (by simpa using hc)), List.reverse_reverse]

theorem byte_at (s : ByteArray) (i : Nat) (h : i < s.size) : s.data.toList[i]'(by simpa using h) = s[i] := rfl
theorem tl_at (s : ByteArray) (k : Nat) (h : ∀ i, (h : i < s.size) → i < k → s[i] = 48) (hk : k ≤ s.size) (hc : (h : k < s.size) → s[k] ≠ 48) : tl s.data.toList = s.data.toList.drop k := by
  have e : tl (s.data.toList.take k ++ s.data.toList.drop k) = s.data.toList.drop k := by
    apply tl_app
    · intro c hc
      obtain ⟨i, hi, rfl⟩ := List.getElem_of_mem hc
      have hi' : i < k := by simp at hi; omega
      have hs : i < s.size := by omega
      rw [List.getElem_take, byte_at s i hs]
      exact h i hs hi'
    · intro c hcc
      rw [List.head?_drop] at hcc
      obtain ⟨hl, rfl⟩ := List.getElem?_eq_some_iff.1 hcc
      have hs : k < s.size := by simpa using hl
      rw [byte_at s k hs]
      exact hc hs
  rwa [List.take_append_drop] at e
theorem tr_at (s : ByteArray) (k m : Nat) (hkm : k ≤ m) (hm : m ≤ s.size) (h : ∀ i, (h : i < s.size) → m ≤ i → s[i] = 48) (hc : k < m → byteAt s.data.toList (m - 1) ≠ 48) :
    tr (s.data.toList.drop k) = (s.data.toList.take m).drop k := by
  have e : s.data.toList.drop k = (s.data.toList.take m).drop k ++ s.data.toList.drop m := by
    have h1 : s.data.toList.drop k = (s.data.toList.take m ++ s.data.toList.drop m).drop k := by rw [List.take_append_drop]
    rw [h1, List.drop_append_of_le_length (by simp; omega)]
  rw [e]
  apply tr_app
  · intro c hc
    obtain ⟨i, hi, rfl⟩ := List.getElem_of_mem hc
    have hs : m + i < s.size := by simp at hi; omega
    rw [List.getElem_drop, byte_at s (m + i) hs]
    exact h (m + i) hs (by omega)
  · intro c hcc
    by_cases hk : k < m
    · have hlt : m - 1 < s.size := by omega
      have hl : ((s.data.toList.take m).drop k).getLast? = some s[m - 1] := by
        rw [List.getLast?_eq_getElem?, List.getElem?_drop]
        have : k + (((s.data.toList.take m).drop k).length - 1) = m - 1 := by simp; omega
        rw [this, List.getElem?_take_of_lt (by omega), List.getElem?_eq_getElem (by simp; omega)]
        rfl
      rw [hl] at hcc
      cases hcc
      have h1 := hc hk
      rw [byteAt_get s (m - 1) hlt] at h1
      intro e
      rw [e] at h1
      exact h1 rfl
    · rw [List.drop_of_length_le (by simp; omega)] at hcc
      simp at hcc

theorem ext_str (s : ByteArray) (i j : Nat) : s.extract i j = ⟨((s.data.toList.take j).drop i).toArray⟩ := ext s.data.toList i j

theorem ret_str {a b : ByteArray} (h : a = b) : Ending.returned (.string a) = .returned (.string b) := by rw [h]

set_option maxHeartbeats 1000000 in
/-- zzTrimZeros. -/
theorem trimz_any (s : ByteArray) (w : World) (hs : s.size ≤ 4294967296) :
    Calls Tryd.prog 12 #[.string s] w fun e w' => e = .returned (.string ⟨(tr (tl s.data.toList)).toArray⟩) ∧ w' = w := by
  go_enter Tryd.func12, Tryd.ntmps12
  go_wp2
  go_loop [3] (fun n => ∃ k : Nat, k ≤ s.size ∧ n = .int .i64 k ∧ Hid (∀ i, (h : i < s.size) → i < k → s[i] = 48)) (fun n => s.size - (intOf n).toNat)
  case atStart => exact ⟨0, Nat.zero_le _, rfl, fun i _ h => absurd h (Nat.not_lt_zero _)⟩
  case round =>
    obtain ⟨k, hk, rfl, hall⟩ := hrel
    by_cases hst : (h : k < s.size) → s[k] ≠ 48
    · have HT : Hid (tl s.data.toList = s.data.toList.drop k) := tl_at s k hall.out hk hst
      have tt : (¬ k < s.size) ∨ ∃ h : k < s.size, ((s[k].toNat : Int) == 48) = false := by
        by_cases h : k < s.size
        · exact .inr ⟨h, beq_eq_false_iff_ne.2 (fun e => hst h (UInt8.toNat_inj.1 (by simp; omega)))⟩
        · exact .inl h
      clear hst hall
      rcases tt with tt | ⟨hlt, tt⟩
      all_goals
        go_wp2
        go_loop [4] (fun n => ∃ m : Nat, k ≤ m ∧ m ≤ s.size ∧ n = .int .i64 m ∧ Hid (∀ i, (h : i < s.size) → m ≤ i → s[i] = 48)) (fun n => (intOf n).toNat)
        case atStart => exact ⟨s.size, hk, Nat.le_refl _, rfl, fun i h h2 => absurd h (by omega)⟩
        case round =>
          obtain ⟨m, hkm, hm, rfl, hz⟩ := hrel
          by_cases hgo : k < m → byteAt s.data.toList (m - 1) ≠ 48
          · have HF : Hid ((⟨(tr (tl s.data.toList)).toArray⟩ : ByteArray) = s.extract k m) := by
              show _ = _
              rw [HT.out, tr_at s k m hkm hm hz.out hgo, ext_str]
            by_cases h2 : k < m
            · have hlt2 : m - 1 < s.size := by omega
              have t2 : ((s[m - 1].toNat : Int) == 48) = false := by rw [← byteAt_get s (m - 1) hlt2]; exact beq_eq_false_iff_ne.2 (hgo h2)
              clear hgo hz
              go_wp2
              all_goals
                go_ret
                exact ⟨ret_str HF.out.symm, rfl⟩
            · clear hgo hz
              go_wp2
              all_goals
                go_ret
                exact ⟨ret_str HF.out.symm, rfl⟩
          · have hg2 : k < m ∧ byteAt s.data.toList (m - 1) = 48 := by
              by_cases h : k < m
              · by_cases h3 : byteAt s.data.toList (m - 1) = 48
                · exact ⟨h, h3⟩
                · exact absurd (fun _ => h3) hgo
              · exact absurd (fun h' => absurd h' h) hgo
            obtain ⟨h2, h3⟩ := hg2
            have hlt2 : m - 1 < s.size := by omega
            rw [byteAt_get s (m - 1) hlt2] at h3
            have t3 : ((s[m - 1].toNat : Int) == 48) = true := by rw [h3]; rfl
            have H3 : Hid (s[m - 1] = 48) := UInt8.toNat_inj.1 (by simp; omega)
            clear hgo h3
            go_wp2
            all_goals
              refine ⟨⟨m - 1, by omega, by omega, by go_num, fun i h hi => ?_⟩, by simp [intOf]; omega⟩
              by_cases e : i = m - 1
              · subst e; exact H3.out
              · exact hz.out i h (by omega)
    · have hg : ∃ h : k < s.size, s[k] = 48 := by
        by_cases h : k < s.size
        · by_cases h3 : s[k] = 48
          · exact ⟨h, h3⟩
          · exact absurd (fun _ => h3) hst
        · exact absurd (fun h' => absurd h' h) hst
      obtain ⟨hlt, hc⟩ := hg
      have t0 : ((s[k].toNat : Int) == 48) = true := by rw [hc]; rfl
      have HC := Hid.mk hc
      clear hc hst
      go_wp2
      refine ⟨⟨k + 1, by omega, by go_num, fun i h hi => ?_⟩, by simp [intOf]; omega⟩
      by_cases e : i = k
      · subst e; exact HC.out
      · exact hall.out i h (by omega)
end Go.Proofs.Qxb6003914aDoor
