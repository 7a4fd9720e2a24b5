import Derived.Test.Qxb6605569aDoorW2
import Derived.Deep.WholeRow
namespace Go.Proofs.Qxb6605569aDoor
open Go.RowKit Go.Lib

theorem hex_dec' (n : Int) (w : World) (h1 : 0 ≤ n) (h2 : n < 10) : Calls Tryd.prog 11 #[.int .u8 (48 + n)] w fun e w' => e = .returned (.tuple #[.int .i64 n, .bool true]) ∧ w' = w := by
  refine (hex_dec (48 + n) w (by omega) (by omega)).mono ?_
  rintro e w' ⟨rfl, rfl⟩
  exact ⟨by rw [show 48 + n - 48 = n by omega], rfl⟩
theorem hex_low' (n : Int) (w : World) (h1 : 10 ≤ n) (h2 : n < 16) : Calls Tryd.prog 11 #[.int .u8 (87 + n)] w fun e w' => e = .returned (.tuple #[.int .i64 n, .bool true]) ∧ w' = w := by
  refine (hex_low (87 + n) w (by omega) (by omega)).mono ?_
  rintro e w' ⟨rfl, rfl⟩
  exact ⟨by rw [show 87 + n - 97 + 10 = n by omega], rfl⟩

/-- How many digits stand ahead of position k. -/
def dpos (k : Nat) : Nat := k - ((if 8 < k then 1 else 0) + (if 13 < k then 1 else 0) + (if 18 < k then 1 else 0) + (if 23 < k then 1 else 0))
/-- What byte j holds when d digits are read. -/
def val (A : List Int) (d j : Nat) : Int := if 2 * j + 2 ≤ d then A.getD j 0 else if 2 * j + 1 = d then A.getD j 0 / 16 * 16 else 0
def outC (A : List Int) (d : Nat) : Array Value := ((List.range 16).map fun j => Value.int .u8 (val A d j)).toArray
/-- The lower-case spelling of A. -/
def Low (A : List Int) (s : ByteArray) : Prop := s.size = 36 ∧ ∀ k, (h : k < s.size) → (isHy k → (s[k].toNat : Int) = 45) ∧ (¬ isHy k → (s[k].toNat : Int) = (if nib A (dpos k) < 10 then 48 + nib A (dpos k) else 87 + nib A (dpos k)))

theorem sixteen (A : List Int) (h : A.length = 16) : ∃ a0 a1 a2 a3 a4 a5 a6 a7 a8 a9 a10 a11 a12 a13 a14 a15, A = [a0, a1, a2, a3, a4, a5, a6, a7, a8, a9, a10, a11, a12, a13, a14, a15] := by
  match A, h with
  | [a0, a1, a2, a3, a4, a5, a6, a7, a8, a9, a10, a11, a12, a13, a14, a15], _ => exact ⟨a0, a1, a2, a3, a4, a5, a6, a7, a8, a9, a10, a11, a12, a13, a14, a15, rfl⟩
theorem dpos_hy {k : Nat} (h : isHy k) : dpos (k + 1) = dpos k := by
  rcases h with rfl | rfl | rfl | rfl <;> rfl
theorem dpos_on {k : Nat} (h : ¬ isHy k) : dpos (k + 1) = dpos k + 1 := by
  unfold isHy at h
  unfold dpos
  repeat' split
  all_goals omega
theorem outC_set {A : List Int} {d m : Nat} {v : Int} (hv : v = val A (d + 1) m) (ho : ∀ j, j ≠ m → val A (d + 1) j = val A d j) : (outC A d).setIfInBounds m (.int .u8 v) = outC A (d + 1) := by
  apply Array.ext
  · simp [outC]
  · intro i h1 h2
    simp [outC] at h1 h2
    rw [Array.getElem_setIfInBounds (by simpa [outC] using h2)]
    by_cases e : m = i
    · subst e
      simp [outC, hv]
    · simp [outC, e, ho i (fun h => e h.symm)]
theorem outC_even {A : List Int} {d m : Nat} (hm : m = d / 2) (h2 : d % 2 = 0) : (outC A d).setIfInBounds m (.int .u8 (nib A d * 16)) = outC A (d + 1) := by
  refine outC_set ?_ (fun j hj => ?_)
  · unfold nib val
    rw [if_pos h2, if_neg (by omega), if_pos (by omega), hm]
  · unfold val
    by_cases h : 2 * j + 2 ≤ d
    · rw [if_pos h, if_pos (by omega)]
    · rw [if_neg h, if_neg (by omega), if_neg (by omega), if_neg (by omega)]
theorem bits_or : ∀ a n : Fin 16, bits BinOp.or IntKind.u8 ((a.val : Int) * 16) (n.val : Int) = (a.val : Int) * 16 + (n.val : Int) := by decide +kernel
theorem bits_or' {a n : Int} (ha : 0 ≤ a ∧ a < 16) (hn : 0 ≤ n ∧ n < 16) : bits BinOp.or IntKind.u8 (a * 16) n = a * 16 + n := by
  have := bits_or ⟨a.toNat, by omega⟩ ⟨n.toNat, by omega⟩
  simpa [Int.toNat_of_nonneg ha.1, Int.toNat_of_nonneg hn.1] using this
theorem val_odd {A : List Int} {d m : Nat} (hm : m = d / 2) (h2 : ¬ d % 2 = 0) : val A d m = A.getD m 0 / 16 * 16 := by
  unfold val
  rw [if_neg (by omega), if_pos (by omega)]
theorem or_odd {A : List Int} (hA : Oct A) {d m : Nat} (hm : m = d / 2) (h2 : ¬ d % 2 = 0) : bits BinOp.or IntKind.u8 (val A d m) (nib A d) = A.getD m 0 := by
  have := hA.2 m
  rw [val_odd hm h2]
  unfold nib
  rw [if_neg h2, ← hm, bits_or' (by omega) (by omega)]
  omega
theorem outC_odd {A : List Int} (hA : Oct A) {d m : Nat} (hm : m = d / 2) (h2 : ¬ d % 2 = 0) : (outC A d).setIfInBounds m (.int .u8 (bits BinOp.or IntKind.u8 (val A d m) (nib A d))) = outC A (d + 1) := by
  rw [or_odd hA hm h2]
  refine outC_set ?_ (fun j hj => ?_)
  · unfold val
    rw [if_pos (by omega)]
  · unfold val
    by_cases h : 2 * j + 2 ≤ d
    · rw [if_pos h, if_pos (by omega)]
    · rw [if_neg h, if_neg (by omega), if_neg (by omega), if_neg (by omega)]
theorem outC_full {A : List Int} (hA : Oct A) : outC A 32 = (A.map (Value.int .u8)).toArray := by
  apply Array.ext
  · simp [outC, hA.1]
  · intro i h1 h2
    have hi : i < 16 := by simpa [outC] using h1
    have hi' : i < A.length := by rw [hA.1]; exact hi
    simp [outC, val, hi']
    omega

set_option maxHeartbeats 1000000 in
/-- uuidValue. -/
theorem value_any (A : List Int) (hA : Oct A) (s : ByteArray) (w : World) (hc : Low A s) :
    Calls Tryd.prog 9 #[.string s] w fun e w' => e = .returned (.tuple #[.agg (A.map (Value.int .u8)).toArray, .bool true]) ∧ Below w.heap.size w w' := by
  obtain ⟨hs, hk⟩ := hc
  have HK := Hid.mk hk
  clear hk
  go_enter Tryd.func9, Tryd.ntmps9
  go_wp2
  obtain ⟨Z, hZ⟩ : ∃ Z, Z = outC A 0 := ⟨_, rfl⟩
  go_loopw [5, 6] (fun dv iv wr => ∃ k : Nat, k ≤ 36 ∧ iv = .int .i64 k ∧ dv = .int .i64 (dpos k) ∧ wr = (w.alloc (.cells Z 25)).alloc (.cells (outC A (dpos k)) 25)) (fun _ i _ => 36 - (RowKit.intOf i).toNat)
  case atStart => exact ⟨0, by omega, rfl, rfl, by rw [hZ]; rfl⟩
  case round =>
    have HZ := Hid.mk hZ
    clear hZ
    obtain ⟨k, hk, rfl, rfl, rfl⟩ := hrel
    by_cases h36 : k < 36
    · have hkb : k < s.size := by omega
      have h := HK.out k hkb
      obtain ⟨d, hd⟩ : ∃ d, d = dpos k := ⟨_, rfl⟩
      obtain ⟨C, hC⟩ : ∃ C, C = outC A d := ⟨_, rfl⟩
      rw [← hd] at h
      rw [← hd, ← hC]
      have HD := Hid.mk hd
      have HC := Hid.mk hC
      have hCs : C.size = 16 := by rw [hC]; simp [outC]
      clear hd hC
      by_cases hy : isHy k
      · have h45 := h.1 hy
        clear h
        go_wp2
        go_roundw
        case rel => exact ⟨k + 1, by omega, by go_num, by rw [dpos_hy hy, HD.out], by rw [dpos_hy hy, HC.out, HD.out]⟩
        case measure => simp [RowKit.intOf]; omega
      · have hx := h.2 hy
        clear h
        have hd31 : d < 32 := by
          rw [HD.out]; unfold dpos; unfold isHy at hy
          repeat' split
          all_goals omega
        have hq : (d : Int).tdiv 2 = ((d / 2 : Nat) : Int) := by rw [Int.tdiv_eq_ediv_of_nonneg (by omega)]; omega
        obtain ⟨m, hm⟩ : ∃ m, m = d / 2 := ⟨_, rfl⟩
        have hmb : m < 16 := by omega
        have hCg : C[m]? = some (.int .u8 (val A d m)) := by rw [HC.out]; simp [outC, hmb]
        obtain ⟨y, hyv⟩ : ∃ y, y = val A d m := ⟨_, rfl⟩
        rw [← hyv] at hCg
        have hml : m < C.size := by omega
        have hCe : C[m] = .int .u8 y := by rw [Array.getElem?_eq_getElem hml] at hCg; exact Option.some.inj hCg
        clear hCg
        have hn := nib_bd hA d
        obtain ⟨n, hN⟩ : ∃ n, n = nib A d := ⟨_, rfl⟩
        rw [← hN] at hx hn
        rw [← hm] at hq
        have HM := Hid.mk hm
        have HY := Hid.mk hyv
        have HN := Hid.mk hN
        have HNY := Hid.mk hy
        clear hm hyv hN hy
        by_cases h10 : n < 10
        · rw [if_pos h10] at hx
          have hne : (48 + n == 45) = false := by rw [beq_eq_false_iff_ne]; omega
          by_cases h2 : d % 2 = 0
          · have hr : (d : Int).tmod 2 = 0 := by rw [Int.tmod_eq_emod_of_nonneg (by omega)]; omega
            go_wp2_with fail
            refine (hex_dec' n _ hn.1 h10).mono ?_
            rintro e w' ⟨rfl, rfl⟩
            go_wp2
            go_roundw
            case rel => exact ⟨k + 1, by omega, by go_num, by rw [dpos_on HNY.out, ← HD.out]; go_num, by rw [dpos_on HNY.out, ← HD.out, HC.out, HN.out, outC_even HM.out h2]⟩
            case measure => simp [RowKit.intOf]; omega
          · have hr : (d : Int).tmod 2 = 1 := by rw [Int.tmod_eq_emod_of_nonneg (by omega)]; omega
            go_wp2_with fail
            refine (hex_dec' n _ hn.1 h10).mono ?_
            rintro e w' ⟨rfl, rfl⟩
            go_wp2
            go_roundw
            case rel => exact ⟨k + 1, by omega, by go_num, by rw [dpos_on HNY.out, ← HD.out]; go_num, by rw [dpos_on HNY.out, ← HD.out, HC.out, HY.out, HN.out, outC_odd hA HM.out h2]⟩
            case measure => simp [RowKit.intOf]; omega
        · rw [if_neg h10] at hx
          have hne : (87 + n == 45) = false := by rw [beq_eq_false_iff_ne]; omega
          by_cases h2 : d % 2 = 0
          · have hr : (d : Int).tmod 2 = 0 := by rw [Int.tmod_eq_emod_of_nonneg (by omega)]; omega
            go_wp2_with fail
            refine (hex_low' n _ (by omega) (by omega)).mono ?_
            rintro e w' ⟨rfl, rfl⟩
            go_wp2
            go_roundw
            case rel => exact ⟨k + 1, by omega, by go_num, by rw [dpos_on HNY.out, ← HD.out]; go_num, by rw [dpos_on HNY.out, ← HD.out, HC.out, HN.out, outC_even HM.out h2]⟩
            case measure => simp [RowKit.intOf]; omega
          · have hr : (d : Int).tmod 2 = 1 := by rw [Int.tmod_eq_emod_of_nonneg (by omega)]; omega
            go_wp2_with fail
            refine (hex_low' n _ (by omega) (by omega)).mono ?_
            rintro e w' ⟨rfl, rfl⟩
            go_wp2
            go_roundw
            case rel => exact ⟨k + 1, by omega, by go_num, by rw [dpos_on HNY.out, ← HD.out]; go_num, by rw [dpos_on HNY.out, ← HD.out, HC.out, HY.out, HN.out, outC_odd hA HM.out h2]⟩
            case measure => simp [RowKit.intOf]; omega
    · obtain rfl : k = 36 := by omega
      have e36 : dpos 36 = 32 := rfl
      rw [e36, outC_full hA]
      obtain ⟨a0, a1, a2, a3, a4, a5, a6, a7, a8, a9, a10, a11, a12, a13, a14, a15, rfl⟩ := sixteen A hA.1
      have eZ : Z = #[.int .u8 0, .int .u8 0, .int .u8 0, .int .u8 0, .int .u8 0, .int .u8 0, .int .u8 0, .int .u8 0, .int .u8 0, .int .u8 0, .int .u8 0, .int .u8 0, .int .u8 0, .int .u8 0, .int .u8 0, .int .u8 0] := HZ.out
      subst eZ
      clear HK hA HZ
      go_wp2
      refine bodyPost_ret (v := .tuple #[.agg ([a0, a1, a2, a3, a4, a5, a6, a7, a8, a9, a10, a11, a12, a13, a14, a15].map (Value.int .u8)).toArray, .bool true]) ?_ rfl ⟨rfl, ?_⟩
      · rw [results_cell_tmp rfl]
        simp [asAddr, Result.andThen, go_sem]
      · exact ((Below.refl _ _).alloc (Nat.le_refl _) _).alloc (by simp) _
end Go.Proofs.Qxb6605569aDoor
