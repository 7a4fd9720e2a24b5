import Derived.Test.Qxb6003914aDoorP1
namespace Go.Proofs.Qxb6003914aDoor
open Go.RowKit

set_option maxHeartbeats 400000 in
theorem ord_out (a b p q : Int) (w : World) (h : ¬ (-1000000 ≤ a ∧ a ≤ 1000000 ∧ -1000000 ≤ b ∧ b ≤ 1000000 ∧ -6 ≤ p ∧ p ≤ 6 ∧ -6 ≤ q ∧ q ≤ 6)) :
    Calls Tryd.prog 4 #[.int .i64 a, .int .i64 b, .int .i64 p, .int .i64 q] w fun e w' => e = .returned (.bool true) ∧ Below w.heap.size w w' := by
  by_cases h1 : a < -1000000
  · clear h; go_enter Tryd.func4, Tryd.ntmps4; go_wp2; go_ret; exact ⟨rfl, Below.refl _ _⟩
  by_cases h2 : 1000000 < a
  · clear h; go_enter Tryd.func4, Tryd.ntmps4; go_wp2; go_ret; exact ⟨rfl, Below.refl _ _⟩
  by_cases h3 : b < -1000000
  · clear h; go_enter Tryd.func4, Tryd.ntmps4; go_wp2; go_ret; exact ⟨rfl, Below.refl _ _⟩
  by_cases h4 : 1000000 < b
  · clear h; go_enter Tryd.func4, Tryd.ntmps4; go_wp2; go_ret; exact ⟨rfl, Below.refl _ _⟩
  by_cases h5 : p < -6
  · clear h; go_enter Tryd.func4, Tryd.ntmps4; go_wp2; go_ret; exact ⟨rfl, Below.refl _ _⟩
  by_cases h6 : 6 < p
  · clear h; go_enter Tryd.func4, Tryd.ntmps4; go_wp2; go_ret; exact ⟨rfl, Below.refl _ _⟩
  by_cases h7 : q < -6
  · clear h; go_enter Tryd.func4, Tryd.ntmps4; go_wp2; go_ret; exact ⟨rfl, Below.refl _ _⟩
  by_cases h8 : 6 < q
  · clear h; go_enter Tryd.func4, Tryd.ntmps4; go_wp2; go_ret; exact ⟨rfl, Below.refl _ _⟩
  exact absurd (by omega) h

theorem cell_old (w : World) (o : Obj) (b k : Nat) (h : b < w.heap.size) : (w.alloc o).cell? ⟨b, k, none⟩ = w.cell? ⟨b, k, none⟩ :=
  ((Below.refl w.heap.size w).alloc (Nat.le_refl _) o).cell (p := ⟨b, k, none⟩) h
theorem spells_len {S : List UInt8} {v : Int} (h : Spells S v) : S.length ≤ 20 := by
  obtain ⟨D, _, _, hl, h⟩ := h
  rcases h with ⟨_, rfl, _⟩ | ⟨_, rfl, _⟩
  · omega
  · simp; omega

theorem pd_len (ng : Bool) (W F : List UInt8) (x : Int) : (pd ng W F x).2.1.length ≤ W.length ∧ (pd ng W F x).2.2.1.length ≤ F.length := by
  have h1 := tl_len W
  have h2 := tl_len F
  have h3 := tr_len (tl W)
  have h4 := tr_len (tl F)
  have h5 := tr_len F
  unfold pd
  split <;> split <;> simp <;> omega
theorem app_mk (a b : List UInt8) : (⟨a.toArray⟩ : ByteArray) ++ ⟨b.toArray⟩ = ⟨(a ++ b).toArray⟩ := by
  apply ByteArray.ext
  simp

/-- 'zzItoa(a) + "e" + zzItoa(p)', read. -/
theorem zz_at {A S : List UInt8} {a p : Int} (hA : Spells A a) (hS : Spells S p) (h0 : -1073741824 ≤ p) (h1 : p ≤ 1073741824) :
    ∃ D : List UInt8, Digs D ∧ (valOf D : Int) = a.natAbs ∧ D.length ≤ 19 ∧ ∀ w, Calls Tryd.prog 10 #[.string (⟨A.toArray⟩ ++ ⟨#[101]⟩ ++ ⟨S.toArray⟩)] w fun e w' =>
      e = .returned (.tuple #[dvl (pd (decide (a < 0)) D [] p), .bool true]) ∧ Below w.heap.size w w' := by
  obtain ⟨D, hn, hd, hl, h⟩ := hA
  refine ⟨D, hd, ?_, hl, ?_⟩
  · rcases h with ⟨g, _, e⟩ | ⟨g, _, e⟩ <;> omega
  · intro w
    have e : (⟨A.toArray⟩ ++ ⟨#[101]⟩ ++ ⟨S.toArray⟩ : ByteArray) = ⟨(txt (decide (a < 0)) D [] S).toArray⟩ := by
      rw [app_mk, app_mk]
      rcases h with ⟨g, rfl, _⟩ | ⟨g, rfl, _⟩
      · have : decide (a < 0) = false := by simp; omega
        rw [this]; simp [txt]
      · have : decide (a < 0) = true := by simp; omega
        rw [this]; simp [txt]
    rw [e]
    exact zzparse_any _ D [] S p w hn hd (by simp) hS h0 h1 (by simp; omega)

set_option maxHeartbeats 2000000 in
theorem ord_in (a b p q : Int) (w : World) (a0 : -1000000 ≤ a) (a1 : a ≤ 1000000) (b0 : -1000000 ≤ b) (b1 : b ≤ 1000000) (p0 : -6 ≤ p) (p1 : p ≤ 6) (q0 : -6 ≤ q) (q1 : q ≤ 6) :
    Calls Tryd.prog 4 #[.int .i64 a, .int .i64 b, .int .i64 p, .int .i64 q] w fun e w' => e = .returned (.bool true) ∧ Below w.heap.size w w' := by
  obtain ⟨P, hP⟩ := Int.eq_ofNat_of_zero_le (show 0 ≤ p + 6 by omega)
  obtain ⟨Q, hQ⟩ := Int.eq_ofNat_of_zero_le (show 0 ≤ q + 6 by omega)
  have HP := Hid.mk hP
  have HQ := Hid.mk hQ
  have bP : P ≤ 12 := by omega
  have bQ : Q ≤ 12 := by omega
  clear hP hQ
  go_enter Tryd.func4, Tryd.ntmps4
  go_wp2_with fail
  refine (itoa_any a _ (by omega) (by omega)).mono ?_
  rintro e w1 ⟨A, rfl, sA, hb1⟩
  have SA := Hid.mk sA
  have lA := spells_len sA
  clear sA
  go_wp2_with fail
  refine (itoa_any p _ (by omega) (by omega)).mono ?_
  rintro e w2 ⟨Ap, rfl, sP, hb2⟩
  obtain ⟨D1, c1, v1, l1, z1⟩ := zz_at SA.out sP (by omega) (by omega)
  have lP := spells_len sP
  have Z1 := Hid.mk z1
  have V1 := Hid.mk v1
  have C1 := Hid.mk c1
  clear sP z1 v1 c1
  obtain ⟨n1, T1, U1, r1, e1⟩ : ∃ n T U r, pd (decide (a < 0)) D1 [] p = (n, T, U, r) := ⟨_, _, _, _, rfl⟩
  have g1 := pd_len (decide (a < 0)) D1 [] p
  rw [e1] at g1
  have E1 := Hid.mk e1
  clear e1
  go_wp2_with fail
  refine (Z1.out _).mono ?_
  rintro e w3 ⟨rfl, hb3⟩
  rw [E1.out]
  unfold dvl
  go_wp2_with fail
  refine (itoa_any b _ (by omega) (by omega)).mono ?_
  rintro e w4 ⟨B, rfl, sB, hb4⟩
  have SB := Hid.mk sB
  have lB := spells_len sB
  clear sB
  go_wp2_with fail
  refine (itoa_any q _ (by omega) (by omega)).mono ?_
  rintro e w5 ⟨Bq, rfl, sQ, hb5⟩
  obtain ⟨D2, c2, v2, l2, z2⟩ := zz_at SB.out sQ (by omega) (by omega)
  have lQ := spells_len sQ
  have Z2 := Hid.mk z2
  have V2 := Hid.mk v2
  have C2 := Hid.mk c2
  clear sQ z2 v2 c2
  obtain ⟨n2, T2, U2, r2, e2⟩ : ∃ n T U r, pd (decide (b < 0)) D2 [] q = (n, T, U, r) := ⟨_, _, _, _, rfl⟩
  have g2 := pd_len (decide (b < 0)) D2 [] q
  rw [e2] at g2
  have E2 := Hid.mk e2
  clear e2
  go_wp2_with fail
  refine (Z2.out _).mono ?_
  rintro e w6 ⟨rfl, hb6⟩
  rw [E2.out]
  unfold dvl
  go_wp2_with fail
  rw [HP.out]
  refine (pow_any P _ bP).mono ?_
  rintro e w7 ⟨rfl, rfl⟩
  obtain ⟨X, hX⟩ : ∃ X : Nat, 10 ^ P = X := ⟨_, rfl⟩
  have hX12 : X ≤ 1000000000000 := by rw [← hX]; exact Nat.pow_le_pow_right (n := 10) (by omega) bP
  have HX := Hid.mk hX
  rw [hX]
  clear hX
  have x0 : -1000000000000000000 ≤ a * (X : Int) := by
    have h1 : (-1000000) * (X : Int) ≤ a * X := Int.mul_le_mul_of_nonneg_right a0 (by omega)
    omega
  have x1 : a * (X : Int) ≤ 1000000000000000000 := by
    have h1 : a * (X : Int) ≤ 1000000 * X := Int.mul_le_mul_of_nonneg_right a1 (by omega)
    omega
  go_wp2_with fail
  rw [HQ.out]
  refine (pow_any Q _ bQ).mono ?_
  rintro e w7 ⟨rfl, rfl⟩
  obtain ⟨Y, hY⟩ : ∃ Y : Nat, 10 ^ Q = Y := ⟨_, rfl⟩
  have hY12 : Y ≤ 1000000000000 := by rw [← hY]; exact Nat.pow_le_pow_right (n := 10) (by omega) bQ
  have HY := Hid.mk hY
  rw [hY]
  clear hY
  have y0 : -1000000000000000000 ≤ b * (Y : Int) := by
    have h1 : (-1000000) * (Y : Int) ≤ b * Y := Int.mul_le_mul_of_nonneg_right b0 (by omega)
    omega
  have y1 : b * (Y : Int) ≤ 1000000000000000000 := by
    have h1 : b * (Y : Int) ≤ 1000000 * Y := Int.mul_le_mul_of_nonneg_right b1 (by omega)
    omega
  have o1 : Hid (cmpD n1 n2 r1 r2 (T1 ++ U1) (T2 ++ U2) = cmp3 (a * X) (b * Y)) := by
    have := orders a b p q D1 D2 C1.out C2.out V1.out V2.out P Q HP.out.symm HQ.out.symm n1 n2 T1 T2 U1 U2 r1 r2 E1.out E2.out
    rw [HX.out, HY.out] at this
    exact this
  have o2 : Hid (cmpD n2 n1 r2 r1 (T2 ++ U2) (T1 ++ U1) = cmp3 (b * Y) (a * X)) := by
    have := orders b a q p D2 D1 C2.out C1.out V2.out V1.out Q P HQ.out.symm HP.out.symm n2 n1 T2 T1 U2 U1 r2 r1 E2.out E1.out
    rw [HX.out, HY.out] at this
    exact this
  have s1 : (⟨T1.toArray⟩ : ByteArray).size ≤ 2147483648 := by rw [size_mk]; omega
  have s2 : (⟨U1.toArray⟩ : ByteArray).size ≤ 2147483648 := by rw [size_mk]; have := g1.2; simp at this; simp [this]
  have s3 : (⟨T2.toArray⟩ : ByteArray).size ≤ 2147483648 := by rw [size_mk]; omega
  have s4 : (⟨U2.toArray⟩ : ByteArray).size ≤ 2147483648 := by rw [size_mk]; have := g2.2; simp at this; simp [this]
  have m1 := fun w' => zzcmp_any n1 n2 ⟨T1.toArray⟩ ⟨U1.toArray⟩ ⟨T2.toArray⟩ ⟨U2.toArray⟩ r1 r2 w' s1 s2 s3 s4
  have m2 := fun w' => zzcmp_any n2 n1 ⟨T2.toArray⟩ ⟨U2.toArray⟩ ⟨T1.toArray⟩ ⟨U1.toArray⟩ r2 r1 w' s3 s4 s1 s2
  have m1' : ∀ w', Calls Tryd.prog 13 #[.agg #[.bool n1, .string ⟨T1.toArray⟩, .string ⟨U1.toArray⟩, .int .i64 r1], .agg #[.bool n2, .string ⟨T2.toArray⟩, .string ⟨U2.toArray⟩, .int .i64 r2]] w' fun e w'' =>
      e = .returned (.int .i64 (cmp3 (a * X) (b * Y))) ∧ Below w'.heap.size w' w'' := by
    intro w'; rw [← o1.out]; exact m1 w'
  have m2' : ∀ w', Calls Tryd.prog 13 #[.agg #[.bool n2, .string ⟨T2.toArray⟩, .string ⟨U2.toArray⟩, .int .i64 r2], .agg #[.bool n1, .string ⟨T1.toArray⟩, .string ⟨U1.toArray⟩, .int .i64 r1]] w' fun e w'' =>
      e = .returned (.int .i64 (cmp3 (b * Y) (a * X))) ∧ Below w'.heap.size w' w'' := by
    intro w'; rw [← o2.out]; exact m2 w'
  clear m1 m2 o1 o2
  have z4 : w3.heap.size + 1 ≤ w4.heap.size := by have := hb4.size; simpa using this
  have z5 : w4.heap.size ≤ w5.heap.size := hb5.size
  have z6 : w5.heap.size ≤ w6.heap.size := hb6.size
  have z36 : w3.heap.size < w6.heap.size := by omega
  have hbA : Below (w3.heap.size + 1) (w3.alloc (.cells #[.bool n1, .string ⟨T1.toArray⟩, .string ⟨U1.toArray⟩, .int .i64 r1] 28)) w6 := ((hb4.mono (by simp)).trans (hb5.mono z4)).trans (hb6.mono (by omega))
  have g30 : w6.cell? ⟨w3.heap.size, 0, none⟩ = some (.bool n1) := by rw [hbA.cell (p := ⟨w3.heap.size, 0, none⟩) (by simp)]; simp
  have g31 : w6.cell? ⟨w3.heap.size, 1, none⟩ = some (.string ⟨T1.toArray⟩) := by rw [hbA.cell (p := ⟨w3.heap.size, 1, none⟩) (by simp)]; simp
  have g32 : w6.cell? ⟨w3.heap.size, 2, none⟩ = some (.string ⟨U1.toArray⟩) := by rw [hbA.cell (p := ⟨w3.heap.size, 2, none⟩) (by simp)]; simp
  have g33 : w6.cell? ⟨w3.heap.size, 3, none⟩ = some (.int .i64 r1) := by rw [hbA.cell (p := ⟨w3.heap.size, 3, none⟩) (by simp)]; simp
  have hbB : Below w.heap.size w w6 := by
    have h1 : Below w.heap.size w w3 := (hb1.trans (hb2.mono hb1.size)).trans (hb3.mono (Nat.le_trans hb1.size hb2.size))
    exact Below.trans (h1.alloc h1.size _) (hbA.mono (Nat.le_trans h1.size (by omega)))
  have zw : w.heap.size ≤ w6.heap.size := hbB.size
  clear z4 z5 z6 hb1 hb2 hb3 hb4 hb5 hb6 s1 s2 s3 s4 g1 g2 Z1 Z2 E1 E2 C1 C2 V1 V2 SA SB HP HQ HX HY hbA
  have fin : ∀ (v : Int), cmp3 (a * X) (b * Y) = v → cmp3 (b * Y) (a * X) = -v → Hid (∀ w', Calls Tryd.prog 13 #[.agg #[.bool n1, .string ⟨T1.toArray⟩, .string ⟨U1.toArray⟩, .int .i64 r1], .agg #[.bool n2, .string ⟨T2.toArray⟩, .string ⟨U2.toArray⟩, .int .i64 r2]] w' fun e w'' =>
      e = .returned (.int .i64 v) ∧ Below w'.heap.size w' w'') ∧ Hid (∀ w', Calls Tryd.prog 13 #[.agg #[.bool n2, .string ⟨T2.toArray⟩, .string ⟨U2.toArray⟩, .int .i64 r2], .agg #[.bool n1, .string ⟨T1.toArray⟩, .string ⟨U1.toArray⟩, .int .i64 r1]] w' fun e w'' =>
      e = .returned (.int .i64 (-v)) ∧ Below w'.heap.size w' w'') := by
    intro v h1 h2
    rw [h1] at m1'
    rw [h2] at m2'
    exact ⟨m1', m2'⟩
  rcases Int.lt_trichotomy (a * (X : Int)) (b * Y) with h | h | h
  · obtain ⟨M1, M2⟩ := fin (-1) (cmp3_lt h) (cmp3_gt h)
    clear fin m1' m2'
    go_wp2_with fail
    refine (M1.out _).mono ?_
    rintro e w8 ⟨rfl, hb8⟩
    obtain ⟨hc8, hf8⟩ := bcell hb8
    have z8 : w6.heap.size + 1 ≤ w8.heap.size := by have := hb8.size; simpa using this
    have k36 : w3.heap.size < w6.heap.size + 1 := by omega
    have hbC : Hid (Below w.heap.size w w8) := (hbB.alloc zw _).trans (hb8.mono (by simp; omega))
    have g80 : w8.cell? ⟨w3.heap.size, 0, none⟩ = some (.bool n1) := by rw [hc8 w3.heap.size 0 (by rw [World.size_alloc]; exact k36), cell_old _ _ _ _ z36, g30]
    have g81 : w8.cell? ⟨w3.heap.size, 1, none⟩ = some (.string ⟨T1.toArray⟩) := by rw [hc8 w3.heap.size 1 (by rw [World.size_alloc]; exact k36), cell_old _ _ _ _ z36, g31]
    have g82 : w8.cell? ⟨w3.heap.size, 2, none⟩ = some (.string ⟨U1.toArray⟩) := by rw [hc8 w3.heap.size 2 (by rw [World.size_alloc]; exact k36), cell_old _ _ _ _ z36, g32]
    have g83 : w8.cell? ⟨w3.heap.size, 3, none⟩ = some (.int .i64 r1) := by rw [hc8 w3.heap.size 3 (by rw [World.size_alloc]; exact k36), cell_old _ _ _ _ z36, g33]
    have g60 : w8.cell? ⟨w6.heap.size, 0, none⟩ = some (.bool n2) := by rw [hc8 w6.heap.size 0 (by simp)]; simp
    have g61 : w8.cell? ⟨w6.heap.size, 1, none⟩ = some (.string ⟨T2.toArray⟩) := by rw [hc8 w6.heap.size 1 (by simp)]; simp
    have g62 : w8.cell? ⟨w6.heap.size, 2, none⟩ = some (.string ⟨U2.toArray⟩) := by rw [hc8 w6.heap.size 2 (by simp)]; simp
    have g63 : w8.cell? ⟨w6.heap.size, 3, none⟩ = some (.int .i64 r2) := by rw [hc8 w6.heap.size 3 (by simp)]; simp
    clear hc8 hf8 hb8
    go_wp2_with fail
    refine (M2.out _).mono ?_
    rintro e w9 ⟨rfl, hb9⟩
    go_wp2
    go_ret
    exact ⟨rfl, hbC.out.trans (hb9.mono hbC.out.size)⟩
  · obtain ⟨M1, M2⟩ := fin (0) (by rw [h, cmp3_self]) (by rw [h, cmp3_self]; rfl)
    clear fin m1' m2'
    have h1 : ¬ a * (X : Int) < b * Y := by omega
    have h2 : ¬ b * (Y : Int) < a * X := by omega
    clear h
    go_wp2_with fail
    refine (M1.out _).mono ?_
    rintro e w8 ⟨rfl, hb8⟩
    obtain ⟨hc8, hf8⟩ := bcell hb8
    have z8 : w6.heap.size + 1 ≤ w8.heap.size := by have := hb8.size; simpa using this
    have k36 : w3.heap.size < w6.heap.size + 1 := by omega
    have hbC : Hid (Below w.heap.size w w8) := (hbB.alloc zw _).trans (hb8.mono (by simp; omega))
    have g80 : w8.cell? ⟨w3.heap.size, 0, none⟩ = some (.bool n1) := by rw [hc8 w3.heap.size 0 (by rw [World.size_alloc]; exact k36), cell_old _ _ _ _ z36, g30]
    have g81 : w8.cell? ⟨w3.heap.size, 1, none⟩ = some (.string ⟨T1.toArray⟩) := by rw [hc8 w3.heap.size 1 (by rw [World.size_alloc]; exact k36), cell_old _ _ _ _ z36, g31]
    have g82 : w8.cell? ⟨w3.heap.size, 2, none⟩ = some (.string ⟨U1.toArray⟩) := by rw [hc8 w3.heap.size 2 (by rw [World.size_alloc]; exact k36), cell_old _ _ _ _ z36, g32]
    have g83 : w8.cell? ⟨w3.heap.size, 3, none⟩ = some (.int .i64 r1) := by rw [hc8 w3.heap.size 3 (by rw [World.size_alloc]; exact k36), cell_old _ _ _ _ z36, g33]
    have g60 : w8.cell? ⟨w6.heap.size, 0, none⟩ = some (.bool n2) := by rw [hc8 w6.heap.size 0 (by simp)]; simp
    have g61 : w8.cell? ⟨w6.heap.size, 1, none⟩ = some (.string ⟨T2.toArray⟩) := by rw [hc8 w6.heap.size 1 (by simp)]; simp
    have g62 : w8.cell? ⟨w6.heap.size, 2, none⟩ = some (.string ⟨U2.toArray⟩) := by rw [hc8 w6.heap.size 2 (by simp)]; simp
    have g63 : w8.cell? ⟨w6.heap.size, 3, none⟩ = some (.int .i64 r2) := by rw [hc8 w6.heap.size 3 (by simp)]; simp
    clear hc8 hf8 hb8
    go_wp2_with fail
    refine (M2.out _).mono ?_
    rintro e w9 ⟨rfl, hb9⟩
    go_wp2
    go_ret
    exact ⟨rfl, hbC.out.trans (hb9.mono hbC.out.size)⟩
  · obtain ⟨M1, M2⟩ := fin (1) (cmp3_gt h) (cmp3_lt h)
    clear fin m1' m2'
    have h1 : ¬ a * (X : Int) < b * Y := by omega
    go_wp2_with fail
    refine (M1.out _).mono ?_
    rintro e w8 ⟨rfl, hb8⟩
    obtain ⟨hc8, hf8⟩ := bcell hb8
    have z8 : w6.heap.size + 1 ≤ w8.heap.size := by have := hb8.size; simpa using this
    have k36 : w3.heap.size < w6.heap.size + 1 := by omega
    have hbC : Hid (Below w.heap.size w w8) := (hbB.alloc zw _).trans (hb8.mono (by simp; omega))
    have g80 : w8.cell? ⟨w3.heap.size, 0, none⟩ = some (.bool n1) := by rw [hc8 w3.heap.size 0 (by rw [World.size_alloc]; exact k36), cell_old _ _ _ _ z36, g30]
    have g81 : w8.cell? ⟨w3.heap.size, 1, none⟩ = some (.string ⟨T1.toArray⟩) := by rw [hc8 w3.heap.size 1 (by rw [World.size_alloc]; exact k36), cell_old _ _ _ _ z36, g31]
    have g82 : w8.cell? ⟨w3.heap.size, 2, none⟩ = some (.string ⟨U1.toArray⟩) := by rw [hc8 w3.heap.size 2 (by rw [World.size_alloc]; exact k36), cell_old _ _ _ _ z36, g32]
    have g83 : w8.cell? ⟨w3.heap.size, 3, none⟩ = some (.int .i64 r1) := by rw [hc8 w3.heap.size 3 (by rw [World.size_alloc]; exact k36), cell_old _ _ _ _ z36, g33]
    have g60 : w8.cell? ⟨w6.heap.size, 0, none⟩ = some (.bool n2) := by rw [hc8 w6.heap.size 0 (by simp)]; simp
    have g61 : w8.cell? ⟨w6.heap.size, 1, none⟩ = some (.string ⟨T2.toArray⟩) := by rw [hc8 w6.heap.size 1 (by simp)]; simp
    have g62 : w8.cell? ⟨w6.heap.size, 2, none⟩ = some (.string ⟨U2.toArray⟩) := by rw [hc8 w6.heap.size 2 (by simp)]; simp
    have g63 : w8.cell? ⟨w6.heap.size, 3, none⟩ = some (.int .i64 r2) := by rw [hc8 w6.heap.size 3 (by simp)]; simp
    clear hc8 hf8 hb8
    go_wp2_with fail
    refine (M2.out _).mono ?_
    rintro e w9 ⟨rfl, hb9⟩
    go_wp2
    go_ret
    exact ⟨rfl, hbC.out.trans (hb9.mono hbC.out.size)⟩
end Go.Proofs.Qxb6003914aDoor
