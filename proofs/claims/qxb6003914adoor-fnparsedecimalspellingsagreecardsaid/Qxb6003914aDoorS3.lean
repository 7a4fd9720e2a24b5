import Derived.Test.Qxb6003914aDoorS2
namespace Go.Proofs.Qxb6003914aDoor
open Go.RowKit
set_option maxRecDepth 100000

theorem isdigs_yes (W : List UInt8) (w : World) (hl : W.length ≤ 1048576) (h : allDg W = true) : Calls Tryd.prog 7 #[.string ⟨W.toArray⟩] w fun e w' => e = .returned (.bool true) ∧ w = w' := by
  have := isdigs_any ⟨W.toArray⟩ w (by unfold maxLen; rw [size_mk]; omega)
  rw [show allDg (⟨W.toArray⟩ : ByteArray).data.toList = true from h] at this
  exact this.mono fun e w' ⟨h1, h2⟩ => ⟨h1, h2.symm⟩
theorem dg_of {W : List UInt8} (h : allDg W = true) : Digs W := by
  unfold allDg at h
  rw [List.all_eq_true] at h
  exact h
theorem digs_app {A B : List UInt8} (h1 : Digs A) (h2 : Digs B) : Digs (A ++ B) := fun c hc => (List.mem_append.1 hc).elim (h1 c) (h2 c)
/-- A decimal lies at block b. -/
def Dec (w : World) (b : Nat) (n : Bool) (x y : List UInt8) (p : Int) : Prop :=
  w.cell? ⟨b, 0, none⟩ = some (.bool n) ∧ w.cell? ⟨b, 1, none⟩ = some (.string ⟨x.toArray⟩) ∧ w.cell? ⟨b, 2, none⟩ = some (.string ⟨y.toArray⟩) ∧ w.cell? ⟨b, 3, none⟩ = some (.int .i64 p) ∧ b < w.heap.size
theorem Dec.below {w w' : World} {b : Nat} {n : Bool} {x y : List UInt8} {p : Int} (h : Dec w b n x y p) (hb : Below w.heap.size w w') : Dec w' b n x y p := by
  obtain ⟨h0, h1, h2, h3, hz⟩ := h
  exact ⟨by rw [hb.cell (p := ⟨b, 0, none⟩) hz]; exact h0, by rw [hb.cell (p := ⟨b, 1, none⟩) hz]; exact h1, by rw [hb.cell (p := ⟨b, 2, none⟩) hz]; exact h2, by rw [hb.cell (p := ⟨b, 3, none⟩) hz]; exact h3, Nat.lt_of_lt_of_le hz hb.size⟩
theorem Dec.alloc {w : World} {b : Nat} {n : Bool} {x y : List UInt8} {p : Int} (h : Dec w b n x y p) (o : Obj) : Dec (w.alloc o) b n x y p :=
  h.below ((Below.refl _ _).alloc (Nat.le_refl _) _)
theorem dec_new (w : World) (n : Bool) (x y : List UInt8) (p : Int) : Dec (w.alloc (.cells #[.bool n, .string ⟨x.toArray⟩, .string ⟨y.toArray⟩, .int .i64 p] 28)) w.heap.size n x y p :=
  ⟨by simp, by simp, by simp, by simp, by simp⟩
theorem trimz_str (s : ByteArray) (W F : List UInt8) (w : World) (hs : s = ⟨(W ++ F).toArray⟩) (hl : W.length + F.length ≤ 1048576) :
    Calls Tryd.prog 12 #[.string s] w fun e w' => e = .returned (.string ⟨(tr (tl (W ++ F))).toArray⟩) ∧ w = w' := by
  subst hs
  exact (trimz_any ⟨(W ++ F).toArray⟩ w (by rw [size_mk]; simp; omega)).mono fun e w' ⟨h1, h2⟩ => ⟨h1, h2.symm⟩
theorem tol_app (a b : List UInt8) : ((⟨a.toArray⟩ : ByteArray) ++ ⟨b.toArray⟩).toList = a ++ b := by
  rw [app_mk]
  simp
theorem digs_zeros (n : Nat) : Digs (List.replicate n 48) := by
  intro c hc
  rw [(List.mem_replicate.1 hc).2]; rfl
theorem zzparse_str (s : ByteArray) (ng : Bool) (W F S : List UInt8) (x : Int) (w : World) (hs : s = ⟨(txt ng W F S).toArray⟩) (hW0 : W ≠ []) (hW : Digs W) (hF : Digs F) (hS : Spells S x)
    (h0 : -1073741824 ≤ x) (h1 : x ≤ 1073741824) (hl : W.length + F.length ≤ 1073741824) :
    Calls Tryd.prog 10 #[.string s] w fun e w' => e = .returned (.tuple #[dvl (pd ng W F x), .bool true]) ∧ Below w.heap.size w w' := by
  rw [hs]
  exact zzparse_any ng W F S x w hW0 hW hF hS h0 h1 hl

set_option maxHeartbeats 4000000 in
theorem sp_ff (W F : List UInt8) (x : Int) (l r : Nat) (w : World) (hl : W.length + F.length ≤ 1048576) (h1 : l ≤ 64) (h3 : r ≤ 64) (h4 : -1048576 ≤ x) (h5 : x ≤ 1048576)
    (k1 : W.isEmpty = false) (k2 : allDg W = true) (k3 : allDg F = true) (kf : F.isEmpty = false) :
    Calls Tryd.prog 3 #[.bool false, .string ⟨W.toArray⟩, .string ⟨F.toArray⟩, .int .i64 x, .int .i64 l, .int .i64 r] w fun e w' => e = .returned (.bool true) ∧ Below w.heap.size w w' := by
  have HW : Hid (∀ w, Calls Tryd.prog 7 #[.string ⟨W.toArray⟩] w fun e w' => e = .returned (.bool true) ∧ w = w') := fun w => isdigs_yes W w (by omega) k2
  have HF : Hid (∀ w, Calls Tryd.prog 7 #[.string ⟨F.toArray⟩] w fun e w' => e = .returned (.bool true) ∧ w = w') := fun w => isdigs_yes F w (by omega) k3
  have dW := dg_of k2
  have dF : Digs F := dg_of k3
  have nW : W ≠ [] := by intro e; rw [e] at k1; simp at k1
  have DW := Hid.mk dW
  have DF := Hid.mk dF
  have NW := Hid.mk nW
  clear dW dF nW k2 k3
  go_enter Tryd.func3, Tryd.ntmps3
  go_wp2_with (first | (go_at_call 6; go_in) | (go_at_call_of 7 (Value.string ⟨W.toArray⟩); refine (HW.out _).mono ?_; rintro e w' ⟨rfl, rfl⟩) | (go_at_call 7; refine (HF.out _).mono ?_; rintro e w' ⟨rfl, rfl⟩))
  clear HW HF
  refine (itoa_any x _ (by omega) (by omega)).mono ?_
  rintro e w1 ⟨A1, rfl, sA1, hb1⟩
  have SA1 := Hid.mk sA1
  have lA1 := spells_len sA1
  clear sA1
  go_wp2_with fail
  refine (zeros_any l _ h1).mono ?_
  rintro e w2 ⟨rfl, hb2⟩
  have hb2 : Below w.heap.size w w2 := hb1.trans (hb2.mono hb1.size)
  clear hb1
  obtain ⟨Zl, hZl⟩ : ∃ Z, List.replicate l (48 : UInt8) = Z := ⟨_, rfl⟩
  have lZl : Zl.length ≤ 64 := by rw [← hZl]; simpa using h1
  have dZl : Hid (Digs Zl) := by rw [← hZl]; exact digs_zeros l
  rw [hZl]
  have HZl := Hid.mk hZl
  clear hZl
  go_wp2_with fail
  refine (zeros_any r _ h3).mono ?_
  rintro e w3 ⟨rfl, hb3⟩
  have hb3 : Below w.heap.size w w3 := hb2.trans (hb3.mono hb2.size)
  clear hb2
  obtain ⟨Zr, hZr⟩ : ∃ Z, List.replicate r (48 : UInt8) = Z := ⟨_, rfl⟩
  have lZr : Zr.length ≤ 64 := by rw [← hZr]; simpa using h3
  have dZr : Hid (Digs Zr) := by rw [← hZr]; exact digs_zeros r
  rw [hZr]
  have HZr := Hid.mk hZr
  clear hZr
  go_wp2_with fail
  refine (itoa_any _ _ (by omega) (by omega)).mono ?_
  rintro e w4 ⟨A2, rfl, sA2, hb4⟩
  have hb4 : Below w.heap.size w w4 := hb3.trans (hb4.mono hb3.size)
  clear hb3
  have SA2 := Hid.mk sA2
  have lA2 := spells_len sA2
  clear sA2
  go_wp2_with fail
  refine (zeros_any l _ h1).mono ?_
  rintro e w5 ⟨rfl, hb5⟩
  have hb5 : Below w.heap.size w w5 := hb4.trans (hb5.mono hb4.size)
  clear hb4
  rw [HZl.out]
  go_wp2_with fail
  refine (itoa_any _ _ (by omega) (by omega)).mono ?_
  rintro e w6 ⟨A3, rfl, sA3, hb6⟩
  have hb6 : Below w.heap.size w w6 := hb5.trans (hb6.mono hb5.size)
  clear hb5
  have SA3 := Hid.mk sA3
  have lA3 := spells_len sA3
  clear sA3
  obtain ⟨n, p, G, a1, b1, a2, b2, a3, b3, hG, hG0, hG1, e1, c1, e2, c2, e3, c3⟩ := agree false W F x l r
  rw [HZl.out, HZr.out] at e2
  rw [HZl.out] at e3

  have E1 := Hid.mk e1
  have E2 := Hid.mk e2
  have E3 := Hid.mk e3
  have C1 := Hid.mk c1
  have C2 := Hid.mk c2
  have C3 := Hid.mk c3
  have HG := Hid.mk hG
  have HG0 := Hid.mk hG0
  have HG1 := Hid.mk hG1
  have gl : G.length ≤ 1048576 := by
    rw [hG]
    have t1 := tr_len (tl (W ++ F))
    have t2 := tl_len (W ++ F)
    rw [List.length_append] at t2
    
    omega
  have la1 : a1.length + b1.length = G.length := by rw [← c1]; simp
  have la2 : a2.length + b2.length = G.length := by rw [← c2]; simp
  have la3 : a3.length + b3.length = G.length := by rw [← c3]; simp
  have y1 : a1.length ≤ 1048576 ∧ b1.length ≤ 1048576 := by omega
  have y2 : a2.length ≤ 1048576 ∧ b2.length ≤ 1048576 := by omega
  have y3 : a3.length ≤ 1048576 ∧ b3.length ≤ 1048576 := by omega
  clear e1 e2 e3 c1 c2 c3 hG hG0 hG1 la1 la2 la3
  go_wp2_with fail
  refine (zzparse_str _ false W F A1 x _ (by rw [app_mk, app_mk, app_mk, app_mk, app_mk]; simp [txt, kf]) NW.out DW.out DF.out SA1.out (by omega) (by omega) (by omega)).mono ?_
  rintro e w7 ⟨rfl, hb7⟩
  have hb7 : Below w.heap.size w w7 := hb6.trans (hb7.mono hb6.size)
  clear hb6
  rw [E1.out]
  unfold dvl
  go_wp2_with fail
  refine (zzparse_str _ false (Zl ++ (W ++ (F ++ Zr))) [] A2 _ _ (by rw [app_mk, app_mk, app_mk, app_mk, app_mk, app_mk]; simp [txt]) (by simp [NW.out]) (digs_app dZl.out (digs_app DW.out (digs_app DF.out dZr.out))) (by intro c hc; simp at hc) SA2.out (by omega) (by omega) (by simp; omega)).mono ?_
  rintro e w8 ⟨rfl, hb8⟩
  rw [E2.out]
  unfold dvl
  have d18 : Dec w8 w7.heap.size n a1 b1 p := (dec_new w7 n a1 b1 p).below hb8
  have hb8 : Below w.heap.size w w8 := (hb7.alloc hb7.size _).trans (hb8.mono (by rw [World.size_alloc]; have := hb7.size; omega))
  clear hb7
  go_wp2_with fail
  refine (zzparse_str _ false [48] (Zl ++ (W ++ F)) A3 _ _ (by rw [app_mk, app_mk, app_mk, app_mk, app_mk, app_mk]; simp [txt, NW.out]) (by simp) (fun c hc => by rw [List.mem_singleton.1 hc]; rfl) (digs_app dZl.out (digs_app DW.out DF.out)) SA3.out (by omega) (by omega) (by simp; omega)).mono ?_
  rintro e w9 ⟨rfl, hb9⟩
  rw [E3.out]
  unfold dvl
  have d19 : Dec w9 w7.heap.size n a1 b1 p := (d18.alloc _).below hb9
  have d29 : Dec w9 w8.heap.size n a2 b2 p := (dec_new w8 n a2 b2 p).below hb9
  have hb9 : Below w.heap.size w w9 := (hb8.alloc hb8.size _).trans (hb9.mono (by rw [World.size_alloc]; have := hb8.size; omega))
  clear hb8 d18
  obtain ⟨g0, g1, g2, g3, gz⟩ := d19
  go_wp2_with fail
  refine (parts_any n _ _ p _).mono ?_
  rintro e w10 ⟨rfl, hb10⟩
  have dA : Dec w10 w7.heap.size n a1 b1 p := ((Dec.alloc ⟨g0, g1, g2, g3, gz⟩ _).below hb10)
  have dB : Dec w10 w8.heap.size n a2 b2 p := (d29.alloc _).below hb10
  have dC : Dec w10 w9.heap.size n a3 b3 p := (dec_new w9 n a3 b3 p).below hb10
  have hb10 : Below w.heap.size w w10 := (hb9.alloc hb9.size _).trans (hb10.mono (by rw [World.size_alloc]; have := hb9.size; omega))
  clear hb9 d29 g0 g1 g2 g3 gz
  obtain ⟨g0, g1, g2, g3, gz⟩ := dB
  go_wp2_with fail
  refine (parts_any n _ _ p _).mono ?_
  rintro e w11 ⟨rfl, hb11⟩
  have dA := dA.below hb11
  have dB : Dec w11 w8.heap.size n a2 b2 p := Dec.below ⟨g0, g1, g2, g3, gz⟩ hb11
  have dC := dC.below hb11
  have hb11 : Below w.heap.size w w11 := hb10.trans (hb11.mono hb10.size)
  clear hb10 g0 g1 g2 g3 gz
  obtain ⟨g0, g1, g2, g3, gz⟩ := dC
  go_wp2_with fail
  refine (parts_any n _ _ p _).mono ?_
  rintro e w12 ⟨rfl, hb12⟩
  have dA := dA.below hb12
  have dB := dB.below hb12
  have dC : Dec w12 w9.heap.size n a3 b3 p := Dec.below ⟨g0, g1, g2, g3, gz⟩ hb12
  have hb12 : Below w.heap.size w w12 := hb11.trans (hb12.mono hb11.size)
  clear hb11 g0 g1 g2 g3 gz
  go_wp2_with fail
  refine (trimz_str _ W F _ (by rw [app_mk]) (by omega)).mono ?_
  rintro e w' ⟨rfl, rfl⟩
  rw [← HG.out]
  have q1 := tol_app a1 b1
  have q2 := tol_app a2 b2
  have q3 := tol_app a3 b3
  rw [C1.out] at q1
  rw [C2.out] at q2
  rw [C3.out] at q3
  have HC : Hid (∀ u v u' v' : List UInt8, u ++ v = G → u' ++ v' = G → u.length ≤ 1048576 ∧ v.length ≤ 1048576 → u'.length ≤ 1048576 ∧ v'.length ≤ 1048576 → ∀ w', Calls Tryd.prog 13 #[.agg #[.bool n, .string ⟨u.toArray⟩, .string ⟨v.toArray⟩, .int .i64 p], .agg #[.bool n, .string ⟨u'.toArray⟩, .string ⟨v'.toArray⟩, .int .i64 p]] w' fun e w'' => e = .returned (.int .i64 0) ∧ Below w'.heap.size w' w'') := by
    intro u v u' v' e1 e2 l1 l2 w'
    have := zzcmp_any n n ⟨u.toArray⟩ ⟨v.toArray⟩ ⟨u'.toArray⟩ ⟨v'.toArray⟩ p p w' (by rw [size_mk]; omega) (by rw [size_mk]; omega) (by rw [size_mk]; omega) (by rw [size_mk]; omega)
    rw [show (⟨u.toArray⟩ : ByteArray).data.toList ++ (⟨v.toArray⟩ : ByteArray).data.toList = G from e1, show (⟨u'.toArray⟩ : ByteArray).data.toList ++ (⟨v'.toArray⟩ : ByteArray).data.toList = G from e2, cmpD_self] at this
    exact this
  have M12 := Hid.mk (HC.out a1 b1 a2 b2 C1.out C2.out y1 y2)
  have M23 := Hid.mk (HC.out a2 b2 a3 b3 C2.out C3.out y2 y3)
  have M31 := Hid.mk (HC.out a3 b3 a1 b1 C3.out C1.out y3 y1)
  clear HC C1 C2 C3 E1 E2 E3 HG HZl HZr DW DF NW SA1 SA2 SA3 dZl dZr
  cases hg : G.isEmpty
  · obtain rfl : n = false := HG1.out (by intro e; rw [e] at hg; simp at hg)
    clear HG0 HG1
    obtain ⟨g0, g1, g2, g3, gz⟩ := dA
    obtain ⟨i0, i1, i2, i3, iz⟩ := dB
    go_wp2_with fail
    refine (M12.out _).mono ?_
    rintro e w13 ⟨rfl, hb13⟩
    have dA := Dec.below ⟨g0, g1, g2, g3, gz⟩ hb13
    have dB := Dec.below ⟨i0, i1, i2, i3, iz⟩ hb13
    have dC := dC.below hb13
    have hb13 : Below w.heap.size w w13 := hb12.trans (hb13.mono hb12.size)
    clear hb12 g0 g1 g2 g3 gz i0 i1 i2 i3 iz
    obtain ⟨g0, g1, g2, g3, gz⟩ := dB
    obtain ⟨i0, i1, i2, i3, iz⟩ := dC
    go_wp2_with fail
    refine (M23.out _).mono ?_
    rintro e w14 ⟨rfl, hb14⟩
    have dA := dA.below hb14
    have dC := Dec.below ⟨i0, i1, i2, i3, iz⟩ hb14
    have hb14 : Below w.heap.size w w14 := hb13.trans (hb14.mono hb13.size)
    clear hb13 g0 g1 g2 g3 gz i0 i1 i2 i3 iz
    obtain ⟨g0, g1, g2, g3, gz⟩ := dC
    obtain ⟨i0, i1, i2, i3, iz⟩ := dA
    go_wp2_with fail
    refine (M31.out _).mono ?_
    rintro e w15 ⟨rfl, hb15⟩
    have hb15 : Below w.heap.size w w15 := hb14.trans (hb15.mono hb14.size)
    go_wp2
    go_ret
    exact ⟨rfl, hb15⟩
  · obtain ⟨rfl, rfl⟩ := HG0.out (List.isEmpty_iff.1 hg)
    clear HG0 HG1
    obtain ⟨g0, g1, g2, g3, gz⟩ := dA
    obtain ⟨i0, i1, i2, i3, iz⟩ := dB
    go_wp2_with fail
    refine (M12.out _).mono ?_
    rintro e w13 ⟨rfl, hb13⟩
    have dA := Dec.below ⟨g0, g1, g2, g3, gz⟩ hb13
    have dB := Dec.below ⟨i0, i1, i2, i3, iz⟩ hb13
    have dC := dC.below hb13
    have hb13 : Below w.heap.size w w13 := hb12.trans (hb13.mono hb12.size)
    clear hb12 g0 g1 g2 g3 gz i0 i1 i2 i3 iz
    obtain ⟨g0, g1, g2, g3, gz⟩ := dB
    obtain ⟨i0, i1, i2, i3, iz⟩ := dC
    go_wp2_with fail
    refine (M23.out _).mono ?_
    rintro e w14 ⟨rfl, hb14⟩
    have dA := dA.below hb14
    have dC := Dec.below ⟨i0, i1, i2, i3, iz⟩ hb14
    have hb14 : Below w.heap.size w w14 := hb13.trans (hb14.mono hb13.size)
    clear hb13 g0 g1 g2 g3 gz i0 i1 i2 i3 iz
    obtain ⟨g0, g1, g2, g3, gz⟩ := dC
    obtain ⟨i0, i1, i2, i3, iz⟩ := dA
    go_wp2_with fail
    refine (M31.out _).mono ?_
    rintro e w15 ⟨rfl, hb15⟩
    have hb15 : Below w.heap.size w w15 := hb14.trans (hb15.mono hb14.size)
    go_wp2
    go_ret
    exact ⟨rfl, hb15⟩

set_option maxHeartbeats 4000000 in
theorem sp_ft (W : List UInt8) (x : Int) (l r : Nat) (w : World) (hl : W.length ≤ 1048576) (h1 : l ≤ 64) (h3 : r ≤ 64) (h4 : -1048576 ≤ x) (h5 : x ≤ 1048576)
    (k1 : W.isEmpty = false) (k2 : allDg W = true) :
    Calls Tryd.prog 3 #[.bool false, .string ⟨W.toArray⟩, .string ⟨#[]⟩, .int .i64 x, .int .i64 l, .int .i64 r] w fun e w' => e = .returned (.bool true) ∧ Below w.heap.size w w' := by
  have HW : Hid (∀ w, Calls Tryd.prog 7 #[.string ⟨W.toArray⟩] w fun e w' => e = .returned (.bool true) ∧ w = w') := fun w => isdigs_yes W w (by omega) k2
  have HF : Hid (∀ w, Calls Tryd.prog 7 #[.string ⟨#[]⟩] w fun e w' => e = .returned (.bool true) ∧ w = w') := fun w => isdigs_yes [] w (by simp) rfl
  have dW := dg_of k2
  have dF : Digs [] := fun c hc => by simp at hc
  have nW : W ≠ [] := by intro e; rw [e] at k1; simp at k1
  have DW := Hid.mk dW
  have DF := Hid.mk dF
  have NW := Hid.mk nW
  clear dW dF nW k2
  go_enter Tryd.func3, Tryd.ntmps3
  go_wp2_with (first | (go_at_call 6; go_in) | (go_at_call_of 7 (Value.string ⟨W.toArray⟩); refine (HW.out _).mono ?_; rintro e w' ⟨rfl, rfl⟩) | (go_at_call 7; refine (HF.out _).mono ?_; rintro e w' ⟨rfl, rfl⟩))
  clear HW HF
  refine (itoa_any x _ (by omega) (by omega)).mono ?_
  rintro e w1 ⟨A1, rfl, sA1, hb1⟩
  have SA1 := Hid.mk sA1
  have lA1 := spells_len sA1
  clear sA1
  go_wp2_with fail
  refine (zeros_any l _ h1).mono ?_
  rintro e w2 ⟨rfl, hb2⟩
  have hb2 : Below w.heap.size w w2 := hb1.trans (hb2.mono hb1.size)
  clear hb1
  obtain ⟨Zl, hZl⟩ : ∃ Z, List.replicate l (48 : UInt8) = Z := ⟨_, rfl⟩
  have lZl : Zl.length ≤ 64 := by rw [← hZl]; simpa using h1
  have dZl : Hid (Digs Zl) := by rw [← hZl]; exact digs_zeros l
  rw [hZl]
  have HZl := Hid.mk hZl
  clear hZl
  go_wp2_with fail
  refine (zeros_any r _ h3).mono ?_
  rintro e w3 ⟨rfl, hb3⟩
  have hb3 : Below w.heap.size w w3 := hb2.trans (hb3.mono hb2.size)
  clear hb2
  obtain ⟨Zr, hZr⟩ : ∃ Z, List.replicate r (48 : UInt8) = Z := ⟨_, rfl⟩
  have lZr : Zr.length ≤ 64 := by rw [← hZr]; simpa using h3
  have dZr : Hid (Digs Zr) := by rw [← hZr]; exact digs_zeros r
  rw [hZr]
  have HZr := Hid.mk hZr
  clear hZr
  go_wp2_with fail
  refine (itoa_any _ _ (by omega) (by omega)).mono ?_
  rintro e w4 ⟨A2, rfl, sA2, hb4⟩
  have hb4 : Below w.heap.size w w4 := hb3.trans (hb4.mono hb3.size)
  clear hb3
  have SA2 := Hid.mk sA2
  have lA2 := spells_len sA2
  clear sA2
  go_wp2_with fail
  refine (zeros_any l _ h1).mono ?_
  rintro e w5 ⟨rfl, hb5⟩
  have hb5 : Below w.heap.size w w5 := hb4.trans (hb5.mono hb4.size)
  clear hb4
  rw [HZl.out]
  go_wp2_with fail
  refine (itoa_any _ _ (by omega) (by omega)).mono ?_
  rintro e w6 ⟨A3, rfl, sA3, hb6⟩
  have hb6 : Below w.heap.size w w6 := hb5.trans (hb6.mono hb5.size)
  clear hb5
  have SA3 := Hid.mk sA3
  have lA3 := spells_len sA3
  clear sA3
  obtain ⟨n, p, G, a1, b1, a2, b2, a3, b3, hG, hG0, hG1, e1, c1, e2, c2, e3, c3⟩ := agree false W [] x l r
  rw [HZl.out, HZr.out] at e2
  rw [HZl.out] at e3
  rw [show x - (([] : List UInt8).length : Int) - (r : Int) = x - r by simp] at e2
  have E1 := Hid.mk e1
  have E2 := Hid.mk e2
  have E3 := Hid.mk e3
  have C1 := Hid.mk c1
  have C2 := Hid.mk c2
  have C3 := Hid.mk c3
  have HG := Hid.mk hG
  have HG0 := Hid.mk hG0
  have HG1 := Hid.mk hG1
  have gl : G.length ≤ 1048576 := by
    rw [hG]
    have t1 := tr_len (tl (W ++ []))
    have t2 := tl_len (W ++ [])
    rw [List.length_append] at t2
    rw [List.length_nil] at t2
    omega
  have la1 : a1.length + b1.length = G.length := by rw [← c1]; simp
  have la2 : a2.length + b2.length = G.length := by rw [← c2]; simp
  have la3 : a3.length + b3.length = G.length := by rw [← c3]; simp
  have y1 : a1.length ≤ 1048576 ∧ b1.length ≤ 1048576 := by omega
  have y2 : a2.length ≤ 1048576 ∧ b2.length ≤ 1048576 := by omega
  have y3 : a3.length ≤ 1048576 ∧ b3.length ≤ 1048576 := by omega
  clear e1 e2 e3 c1 c2 c3 hG hG0 hG1 la1 la2 la3
  go_wp2_with fail
  refine (zzparse_str _ false W [] A1 x _ (by rw [app_mk, app_mk, app_mk]; simp [txt]) NW.out DW.out DF.out SA1.out (by omega) (by omega) (by simp; omega)).mono ?_
  rintro e w7 ⟨rfl, hb7⟩
  have hb7 : Below w.heap.size w w7 := hb6.trans (hb7.mono hb6.size)
  clear hb6
  rw [E1.out]
  unfold dvl
  go_wp2_with fail
  refine (zzparse_str _ false (Zl ++ (W ++ ([] ++ Zr))) [] A2 _ _ (by rw [app_mk, app_mk, app_mk, app_mk, app_mk, app_mk]; simp [txt]) (by simp [NW.out]) (digs_app dZl.out (digs_app DW.out (digs_app DF.out dZr.out))) (by intro c hc; simp at hc) SA2.out (by omega) (by omega) (by simp; omega)).mono ?_
  rintro e w8 ⟨rfl, hb8⟩
  rw [E2.out]
  unfold dvl
  have d18 : Dec w8 w7.heap.size n a1 b1 p := (dec_new w7 n a1 b1 p).below hb8
  have hb8 : Below w.heap.size w w8 := (hb7.alloc hb7.size _).trans (hb8.mono (by rw [World.size_alloc]; have := hb7.size; omega))
  clear hb7
  go_wp2_with fail
  refine (zzparse_str _ false [48] (Zl ++ (W ++ [])) A3 _ _ (by rw [app_mk, app_mk, app_mk, app_mk, app_mk, app_mk]; simp [txt, NW.out]) (by simp) (fun c hc => by rw [List.mem_singleton.1 hc]; rfl) (digs_app dZl.out (digs_app DW.out DF.out)) SA3.out (by omega) (by omega) (by simp; omega)).mono ?_
  rintro e w9 ⟨rfl, hb9⟩
  rw [E3.out]
  unfold dvl
  have d19 : Dec w9 w7.heap.size n a1 b1 p := (d18.alloc _).below hb9
  have d29 : Dec w9 w8.heap.size n a2 b2 p := (dec_new w8 n a2 b2 p).below hb9
  have hb9 : Below w.heap.size w w9 := (hb8.alloc hb8.size _).trans (hb9.mono (by rw [World.size_alloc]; have := hb8.size; omega))
  clear hb8 d18
  obtain ⟨g0, g1, g2, g3, gz⟩ := d19
  go_wp2_with fail
  refine (parts_any n _ _ p _).mono ?_
  rintro e w10 ⟨rfl, hb10⟩
  have dA : Dec w10 w7.heap.size n a1 b1 p := ((Dec.alloc ⟨g0, g1, g2, g3, gz⟩ _).below hb10)
  have dB : Dec w10 w8.heap.size n a2 b2 p := (d29.alloc _).below hb10
  have dC : Dec w10 w9.heap.size n a3 b3 p := (dec_new w9 n a3 b3 p).below hb10
  have hb10 : Below w.heap.size w w10 := (hb9.alloc hb9.size _).trans (hb10.mono (by rw [World.size_alloc]; have := hb9.size; omega))
  clear hb9 d29 g0 g1 g2 g3 gz
  obtain ⟨g0, g1, g2, g3, gz⟩ := dB
  go_wp2_with fail
  refine (parts_any n _ _ p _).mono ?_
  rintro e w11 ⟨rfl, hb11⟩
  have dA := dA.below hb11
  have dB : Dec w11 w8.heap.size n a2 b2 p := Dec.below ⟨g0, g1, g2, g3, gz⟩ hb11
  have dC := dC.below hb11
  have hb11 : Below w.heap.size w w11 := hb10.trans (hb11.mono hb10.size)
  clear hb10 g0 g1 g2 g3 gz
  obtain ⟨g0, g1, g2, g3, gz⟩ := dC
  go_wp2_with fail
  refine (parts_any n _ _ p _).mono ?_
  rintro e w12 ⟨rfl, hb12⟩
  have dA := dA.below hb12
  have dB := dB.below hb12
  have dC : Dec w12 w9.heap.size n a3 b3 p := Dec.below ⟨g0, g1, g2, g3, gz⟩ hb12
  have hb12 : Below w.heap.size w w12 := hb11.trans (hb12.mono hb11.size)
  clear hb11 g0 g1 g2 g3 gz
  go_wp2_with fail
  refine (trimz_str _ W [] _ (by rw [app_mk]) (by simp; omega)).mono ?_
  rintro e w' ⟨rfl, rfl⟩
  rw [← HG.out]
  have q1 := tol_app a1 b1
  have q2 := tol_app a2 b2
  have q3 := tol_app a3 b3
  rw [C1.out] at q1
  rw [C2.out] at q2
  rw [C3.out] at q3
  have HC : Hid (∀ u v u' v' : List UInt8, u ++ v = G → u' ++ v' = G → u.length ≤ 1048576 ∧ v.length ≤ 1048576 → u'.length ≤ 1048576 ∧ v'.length ≤ 1048576 → ∀ w', Calls Tryd.prog 13 #[.agg #[.bool n, .string ⟨u.toArray⟩, .string ⟨v.toArray⟩, .int .i64 p], .agg #[.bool n, .string ⟨u'.toArray⟩, .string ⟨v'.toArray⟩, .int .i64 p]] w' fun e w'' => e = .returned (.int .i64 0) ∧ Below w'.heap.size w' w'') := by
    intro u v u' v' e1 e2 l1 l2 w'
    have := zzcmp_any n n ⟨u.toArray⟩ ⟨v.toArray⟩ ⟨u'.toArray⟩ ⟨v'.toArray⟩ p p w' (by rw [size_mk]; omega) (by rw [size_mk]; omega) (by rw [size_mk]; omega) (by rw [size_mk]; omega)
    rw [show (⟨u.toArray⟩ : ByteArray).data.toList ++ (⟨v.toArray⟩ : ByteArray).data.toList = G from e1, show (⟨u'.toArray⟩ : ByteArray).data.toList ++ (⟨v'.toArray⟩ : ByteArray).data.toList = G from e2, cmpD_self] at this
    exact this
  have M12 := Hid.mk (HC.out a1 b1 a2 b2 C1.out C2.out y1 y2)
  have M23 := Hid.mk (HC.out a2 b2 a3 b3 C2.out C3.out y2 y3)
  have M31 := Hid.mk (HC.out a3 b3 a1 b1 C3.out C1.out y3 y1)
  clear HC C1 C2 C3 E1 E2 E3 HG HZl HZr DW DF NW SA1 SA2 SA3 dZl dZr
  cases hg : G.isEmpty
  · obtain rfl : n = false := HG1.out (by intro e; rw [e] at hg; simp at hg)
    clear HG0 HG1
    obtain ⟨g0, g1, g2, g3, gz⟩ := dA
    obtain ⟨i0, i1, i2, i3, iz⟩ := dB
    go_wp2_with fail
    refine (M12.out _).mono ?_
    rintro e w13 ⟨rfl, hb13⟩
    have dA := Dec.below ⟨g0, g1, g2, g3, gz⟩ hb13
    have dB := Dec.below ⟨i0, i1, i2, i3, iz⟩ hb13
    have dC := dC.below hb13
    have hb13 : Below w.heap.size w w13 := hb12.trans (hb13.mono hb12.size)
    clear hb12 g0 g1 g2 g3 gz i0 i1 i2 i3 iz
    obtain ⟨g0, g1, g2, g3, gz⟩ := dB
    obtain ⟨i0, i1, i2, i3, iz⟩ := dC
    go_wp2_with fail
    refine (M23.out _).mono ?_
    rintro e w14 ⟨rfl, hb14⟩
    have dA := dA.below hb14
    have dC := Dec.below ⟨i0, i1, i2, i3, iz⟩ hb14
    have hb14 : Below w.heap.size w w14 := hb13.trans (hb14.mono hb13.size)
    clear hb13 g0 g1 g2 g3 gz i0 i1 i2 i3 iz
    obtain ⟨g0, g1, g2, g3, gz⟩ := dC
    obtain ⟨i0, i1, i2, i3, iz⟩ := dA
    go_wp2_with fail
    refine (M31.out _).mono ?_
    rintro e w15 ⟨rfl, hb15⟩
    have hb15 : Below w.heap.size w w15 := hb14.trans (hb15.mono hb14.size)
    go_wp2
    go_ret
    exact ⟨rfl, hb15⟩
  · obtain ⟨rfl, rfl⟩ := HG0.out (List.isEmpty_iff.1 hg)
    clear HG0 HG1
    obtain ⟨g0, g1, g2, g3, gz⟩ := dA
    obtain ⟨i0, i1, i2, i3, iz⟩ := dB
    go_wp2_with fail
    refine (M12.out _).mono ?_
    rintro e w13 ⟨rfl, hb13⟩
    have dA := Dec.below ⟨g0, g1, g2, g3, gz⟩ hb13
    have dB := Dec.below ⟨i0, i1, i2, i3, iz⟩ hb13
    have dC := dC.below hb13
    have hb13 : Below w.heap.size w w13 := hb12.trans (hb13.mono hb12.size)
    clear hb12 g0 g1 g2 g3 gz i0 i1 i2 i3 iz
    obtain ⟨g0, g1, g2, g3, gz⟩ := dB
    obtain ⟨i0, i1, i2, i3, iz⟩ := dC
    go_wp2_with fail
    refine (M23.out _).mono ?_
    rintro e w14 ⟨rfl, hb14⟩
    have dA := dA.below hb14
    have dC := Dec.below ⟨i0, i1, i2, i3, iz⟩ hb14
    have hb14 : Below w.heap.size w w14 := hb13.trans (hb14.mono hb13.size)
    clear hb13 g0 g1 g2 g3 gz i0 i1 i2 i3 iz
    obtain ⟨g0, g1, g2, g3, gz⟩ := dC
    obtain ⟨i0, i1, i2, i3, iz⟩ := dA
    go_wp2_with fail
    refine (M31.out _).mono ?_
    rintro e w15 ⟨rfl, hb15⟩
    have hb15 : Below w.heap.size w w15 := hb14.trans (hb15.mono hb14.size)
    go_wp2
    go_ret
    exact ⟨rfl, hb15⟩

set_option maxHeartbeats 4000000 in
theorem sp_tf (W F : List UInt8) (x : Int) (l r : Nat) (w : World) (hl : W.length + F.length ≤ 1048576) (h1 : l ≤ 64) (h3 : r ≤ 64) (h4 : -1048576 ≤ x) (h5 : x ≤ 1048576)
    (k1 : W.isEmpty = false) (k2 : allDg W = true) (k3 : allDg F = true) (kf : F.isEmpty = false) :
    Calls Tryd.prog 3 #[.bool true, .string ⟨W.toArray⟩, .string ⟨F.toArray⟩, .int .i64 x, .int .i64 l, .int .i64 r] w fun e w' => e = .returned (.bool true) ∧ Below w.heap.size w w' := by
  have HW : Hid (∀ w, Calls Tryd.prog 7 #[.string ⟨W.toArray⟩] w fun e w' => e = .returned (.bool true) ∧ w = w') := fun w => isdigs_yes W w (by omega) k2
  have HF : Hid (∀ w, Calls Tryd.prog 7 #[.string ⟨F.toArray⟩] w fun e w' => e = .returned (.bool true) ∧ w = w') := fun w => isdigs_yes F w (by omega) k3
  have dW := dg_of k2
  have dF : Digs F := dg_of k3
  have nW : W ≠ [] := by intro e; rw [e] at k1; simp at k1
  have DW := Hid.mk dW
  have DF := Hid.mk dF
  have NW := Hid.mk nW
  clear dW dF nW k2 k3
  go_enter Tryd.func3, Tryd.ntmps3
  go_wp2_with (first | (go_at_call 6; go_in) | (go_at_call_of 7 (Value.string ⟨W.toArray⟩); refine (HW.out _).mono ?_; rintro e w' ⟨rfl, rfl⟩) | (go_at_call 7; refine (HF.out _).mono ?_; rintro e w' ⟨rfl, rfl⟩))
  clear HW HF
  refine (itoa_any x _ (by omega) (by omega)).mono ?_
  rintro e w1 ⟨A1, rfl, sA1, hb1⟩
  have SA1 := Hid.mk sA1
  have lA1 := spells_len sA1
  clear sA1
  go_wp2_with fail
  refine (zeros_any l _ h1).mono ?_
  rintro e w2 ⟨rfl, hb2⟩
  have hb2 : Below w.heap.size w w2 := hb1.trans (hb2.mono hb1.size)
  clear hb1
  obtain ⟨Zl, hZl⟩ : ∃ Z, List.replicate l (48 : UInt8) = Z := ⟨_, rfl⟩
  have lZl : Zl.length ≤ 64 := by rw [← hZl]; simpa using h1
  have dZl : Hid (Digs Zl) := by rw [← hZl]; exact digs_zeros l
  rw [hZl]
  have HZl := Hid.mk hZl
  clear hZl
  go_wp2_with fail
  refine (zeros_any r _ h3).mono ?_
  rintro e w3 ⟨rfl, hb3⟩
  have hb3 : Below w.heap.size w w3 := hb2.trans (hb3.mono hb2.size)
  clear hb2
  obtain ⟨Zr, hZr⟩ : ∃ Z, List.replicate r (48 : UInt8) = Z := ⟨_, rfl⟩
  have lZr : Zr.length ≤ 64 := by rw [← hZr]; simpa using h3
  have dZr : Hid (Digs Zr) := by rw [← hZr]; exact digs_zeros r
  rw [hZr]
  have HZr := Hid.mk hZr
  clear hZr
  go_wp2_with fail
  refine (itoa_any _ _ (by omega) (by omega)).mono ?_
  rintro e w4 ⟨A2, rfl, sA2, hb4⟩
  have hb4 : Below w.heap.size w w4 := hb3.trans (hb4.mono hb3.size)
  clear hb3
  have SA2 := Hid.mk sA2
  have lA2 := spells_len sA2
  clear sA2
  go_wp2_with fail
  refine (zeros_any l _ h1).mono ?_
  rintro e w5 ⟨rfl, hb5⟩
  have hb5 : Below w.heap.size w w5 := hb4.trans (hb5.mono hb4.size)
  clear hb4
  rw [HZl.out]
  go_wp2_with fail
  refine (itoa_any _ _ (by omega) (by omega)).mono ?_
  rintro e w6 ⟨A3, rfl, sA3, hb6⟩
  have hb6 : Below w.heap.size w w6 := hb5.trans (hb6.mono hb5.size)
  clear hb5
  have SA3 := Hid.mk sA3
  have lA3 := spells_len sA3
  clear sA3
  obtain ⟨n, p, G, a1, b1, a2, b2, a3, b3, hG, hG0, hG1, e1, c1, e2, c2, e3, c3⟩ := agree true W F x l r
  rw [HZl.out, HZr.out] at e2
  rw [HZl.out] at e3

  have E1 := Hid.mk e1
  have E2 := Hid.mk e2
  have E3 := Hid.mk e3
  have C1 := Hid.mk c1
  have C2 := Hid.mk c2
  have C3 := Hid.mk c3
  have HG := Hid.mk hG
  have HG0 := Hid.mk hG0
  have HG1 := Hid.mk hG1
  have gl : G.length ≤ 1048576 := by
    rw [hG]
    have t1 := tr_len (tl (W ++ F))
    have t2 := tl_len (W ++ F)
    rw [List.length_append] at t2
    
    omega
  have la1 : a1.length + b1.length = G.length := by rw [← c1]; simp
  have la2 : a2.length + b2.length = G.length := by rw [← c2]; simp
  have la3 : a3.length + b3.length = G.length := by rw [← c3]; simp
  have y1 : a1.length ≤ 1048576 ∧ b1.length ≤ 1048576 := by omega
  have y2 : a2.length ≤ 1048576 ∧ b2.length ≤ 1048576 := by omega
  have y3 : a3.length ≤ 1048576 ∧ b3.length ≤ 1048576 := by omega
  clear e1 e2 e3 c1 c2 c3 hG hG0 hG1 la1 la2 la3
  go_wp2_with fail
  refine (zzparse_str _ true W F A1 x _ (by rw [app_mk, app_mk, app_mk, app_mk, app_mk]; simp [txt, kf]) NW.out DW.out DF.out SA1.out (by omega) (by omega) (by omega)).mono ?_
  rintro e w7 ⟨rfl, hb7⟩
  have hb7 : Below w.heap.size w w7 := hb6.trans (hb7.mono hb6.size)
  clear hb6
  rw [E1.out]
  unfold dvl
  go_wp2_with fail
  refine (zzparse_str _ true (Zl ++ (W ++ (F ++ Zr))) [] A2 _ _ (by rw [app_mk, app_mk, app_mk, app_mk, app_mk, app_mk]; simp [txt]) (by simp [NW.out]) (digs_app dZl.out (digs_app DW.out (digs_app DF.out dZr.out))) (by intro c hc; simp at hc) SA2.out (by omega) (by omega) (by simp; omega)).mono ?_
  rintro e w8 ⟨rfl, hb8⟩
  rw [E2.out]
  unfold dvl
  have d18 : Dec w8 w7.heap.size n a1 b1 p := (dec_new w7 n a1 b1 p).below hb8
  have hb8 : Below w.heap.size w w8 := (hb7.alloc hb7.size _).trans (hb8.mono (by rw [World.size_alloc]; have := hb7.size; omega))
  clear hb7
  go_wp2_with fail
  refine (zzparse_str _ true [48] (Zl ++ (W ++ F)) A3 _ _ (by rw [app_mk, app_mk, app_mk, app_mk, app_mk, app_mk]; simp [txt, NW.out]) (by simp) (fun c hc => by rw [List.mem_singleton.1 hc]; rfl) (digs_app dZl.out (digs_app DW.out DF.out)) SA3.out (by omega) (by omega) (by simp; omega)).mono ?_
  rintro e w9 ⟨rfl, hb9⟩
  rw [E3.out]
  unfold dvl
  have d19 : Dec w9 w7.heap.size n a1 b1 p := (d18.alloc _).below hb9
  have d29 : Dec w9 w8.heap.size n a2 b2 p := (dec_new w8 n a2 b2 p).below hb9
  have hb9 : Below w.heap.size w w9 := (hb8.alloc hb8.size _).trans (hb9.mono (by rw [World.size_alloc]; have := hb8.size; omega))
  clear hb8 d18
  obtain ⟨g0, g1, g2, g3, gz⟩ := d19
  go_wp2_with fail
  refine (parts_any n _ _ p _).mono ?_
  rintro e w10 ⟨rfl, hb10⟩
  have dA : Dec w10 w7.heap.size n a1 b1 p := ((Dec.alloc ⟨g0, g1, g2, g3, gz⟩ _).below hb10)
  have dB : Dec w10 w8.heap.size n a2 b2 p := (d29.alloc _).below hb10
  have dC : Dec w10 w9.heap.size n a3 b3 p := (dec_new w9 n a3 b3 p).below hb10
  have hb10 : Below w.heap.size w w10 := (hb9.alloc hb9.size _).trans (hb10.mono (by rw [World.size_alloc]; have := hb9.size; omega))
  clear hb9 d29 g0 g1 g2 g3 gz
  obtain ⟨g0, g1, g2, g3, gz⟩ := dB
  go_wp2_with fail
  refine (parts_any n _ _ p _).mono ?_
  rintro e w11 ⟨rfl, hb11⟩
  have dA := dA.below hb11
  have dB : Dec w11 w8.heap.size n a2 b2 p := Dec.below ⟨g0, g1, g2, g3, gz⟩ hb11
  have dC := dC.below hb11
  have hb11 : Below w.heap.size w w11 := hb10.trans (hb11.mono hb10.size)
  clear hb10 g0 g1 g2 g3 gz
  obtain ⟨g0, g1, g2, g3, gz⟩ := dC
  go_wp2_with fail
  refine (parts_any n _ _ p _).mono ?_
  rintro e w12 ⟨rfl, hb12⟩
  have dA := dA.below hb12
  have dB := dB.below hb12
  have dC : Dec w12 w9.heap.size n a3 b3 p := Dec.below ⟨g0, g1, g2, g3, gz⟩ hb12
  have hb12 : Below w.heap.size w w12 := hb11.trans (hb12.mono hb11.size)
  clear hb11 g0 g1 g2 g3 gz
  go_wp2_with fail
  refine (trimz_str _ W F _ (by rw [app_mk]) (by omega)).mono ?_
  rintro e w' ⟨rfl, rfl⟩
  rw [← HG.out]
  have q1 := tol_app a1 b1
  have q2 := tol_app a2 b2
  have q3 := tol_app a3 b3
  rw [C1.out] at q1
  rw [C2.out] at q2
  rw [C3.out] at q3
  have HC : Hid (∀ u v u' v' : List UInt8, u ++ v = G → u' ++ v' = G → u.length ≤ 1048576 ∧ v.length ≤ 1048576 → u'.length ≤ 1048576 ∧ v'.length ≤ 1048576 → ∀ w', Calls Tryd.prog 13 #[.agg #[.bool n, .string ⟨u.toArray⟩, .string ⟨v.toArray⟩, .int .i64 p], .agg #[.bool n, .string ⟨u'.toArray⟩, .string ⟨v'.toArray⟩, .int .i64 p]] w' fun e w'' => e = .returned (.int .i64 0) ∧ Below w'.heap.size w' w'') := by
    intro u v u' v' e1 e2 l1 l2 w'
    have := zzcmp_any n n ⟨u.toArray⟩ ⟨v.toArray⟩ ⟨u'.toArray⟩ ⟨v'.toArray⟩ p p w' (by rw [size_mk]; omega) (by rw [size_mk]; omega) (by rw [size_mk]; omega) (by rw [size_mk]; omega)
    rw [show (⟨u.toArray⟩ : ByteArray).data.toList ++ (⟨v.toArray⟩ : ByteArray).data.toList = G from e1, show (⟨u'.toArray⟩ : ByteArray).data.toList ++ (⟨v'.toArray⟩ : ByteArray).data.toList = G from e2, cmpD_self] at this
    exact this
  have M12 := Hid.mk (HC.out a1 b1 a2 b2 C1.out C2.out y1 y2)
  have M23 := Hid.mk (HC.out a2 b2 a3 b3 C2.out C3.out y2 y3)
  have M31 := Hid.mk (HC.out a3 b3 a1 b1 C3.out C1.out y3 y1)
  clear HC C1 C2 C3 E1 E2 E3 HG HZl HZr DW DF NW SA1 SA2 SA3 dZl dZr
  cases hg : G.isEmpty
  · obtain rfl : n = true := HG1.out (by intro e; rw [e] at hg; simp at hg)
    clear HG0 HG1
    obtain ⟨g0, g1, g2, g3, gz⟩ := dA
    obtain ⟨i0, i1, i2, i3, iz⟩ := dB
    go_wp2_with fail
    refine (M12.out _).mono ?_
    rintro e w13 ⟨rfl, hb13⟩
    have dA := Dec.below ⟨g0, g1, g2, g3, gz⟩ hb13
    have dB := Dec.below ⟨i0, i1, i2, i3, iz⟩ hb13
    have dC := dC.below hb13
    have hb13 : Below w.heap.size w w13 := hb12.trans (hb13.mono hb12.size)
    clear hb12 g0 g1 g2 g3 gz i0 i1 i2 i3 iz
    obtain ⟨g0, g1, g2, g3, gz⟩ := dB
    obtain ⟨i0, i1, i2, i3, iz⟩ := dC
    go_wp2_with fail
    refine (M23.out _).mono ?_
    rintro e w14 ⟨rfl, hb14⟩
    have dA := dA.below hb14
    have dC := Dec.below ⟨i0, i1, i2, i3, iz⟩ hb14
    have hb14 : Below w.heap.size w w14 := hb13.trans (hb14.mono hb13.size)
    clear hb13 g0 g1 g2 g3 gz i0 i1 i2 i3 iz
    obtain ⟨g0, g1, g2, g3, gz⟩ := dC
    obtain ⟨i0, i1, i2, i3, iz⟩ := dA
    go_wp2_with fail
    refine (M31.out _).mono ?_
    rintro e w15 ⟨rfl, hb15⟩
    have hb15 : Below w.heap.size w w15 := hb14.trans (hb15.mono hb14.size)
    go_wp2
    go_ret
    exact ⟨rfl, hb15⟩
  · obtain ⟨rfl, rfl⟩ := HG0.out (List.isEmpty_iff.1 hg)
    clear HG0 HG1
    obtain ⟨g0, g1, g2, g3, gz⟩ := dA
    obtain ⟨i0, i1, i2, i3, iz⟩ := dB
    go_wp2_with fail
    refine (M12.out _).mono ?_
    rintro e w13 ⟨rfl, hb13⟩
    have dA := Dec.below ⟨g0, g1, g2, g3, gz⟩ hb13
    have dB := Dec.below ⟨i0, i1, i2, i3, iz⟩ hb13
    have dC := dC.below hb13
    have hb13 : Below w.heap.size w w13 := hb12.trans (hb13.mono hb12.size)
    clear hb12 g0 g1 g2 g3 gz i0 i1 i2 i3 iz
    obtain ⟨g0, g1, g2, g3, gz⟩ := dB
    obtain ⟨i0, i1, i2, i3, iz⟩ := dC
    go_wp2_with fail
    refine (M23.out _).mono ?_
    rintro e w14 ⟨rfl, hb14⟩
    have dA := dA.below hb14
    have dC := Dec.below ⟨i0, i1, i2, i3, iz⟩ hb14
    have hb14 : Below w.heap.size w w14 := hb13.trans (hb14.mono hb13.size)
    clear hb13 g0 g1 g2 g3 gz i0 i1 i2 i3 iz
    obtain ⟨g0, g1, g2, g3, gz⟩ := dC
    obtain ⟨i0, i1, i2, i3, iz⟩ := dA
    go_wp2_with fail
    refine (M31.out _).mono ?_
    rintro e w15 ⟨rfl, hb15⟩
    have hb15 : Below w.heap.size w w15 := hb14.trans (hb15.mono hb14.size)
    go_wp2
    go_ret
    exact ⟨rfl, hb15⟩

set_option maxHeartbeats 4000000 in
theorem sp_tt (W : List UInt8) (x : Int) (l r : Nat) (w : World) (hl : W.length ≤ 1048576) (h1 : l ≤ 64) (h3 : r ≤ 64) (h4 : -1048576 ≤ x) (h5 : x ≤ 1048576)
    (k1 : W.isEmpty = false) (k2 : allDg W = true) :
    Calls Tryd.prog 3 #[.bool true, .string ⟨W.toArray⟩, .string ⟨#[]⟩, .int .i64 x, .int .i64 l, .int .i64 r] w fun e w' => e = .returned (.bool true) ∧ Below w.heap.size w w' := by
  have HW : Hid (∀ w, Calls Tryd.prog 7 #[.string ⟨W.toArray⟩] w fun e w' => e = .returned (.bool true) ∧ w = w') := fun w => isdigs_yes W w (by omega) k2
  have HF : Hid (∀ w, Calls Tryd.prog 7 #[.string ⟨#[]⟩] w fun e w' => e = .returned (.bool true) ∧ w = w') := fun w => isdigs_yes [] w (by simp) rfl
  have dW := dg_of k2
  have dF : Digs [] := fun c hc => by simp at hc
  have nW : W ≠ [] := by intro e; rw [e] at k1; simp at k1
  have DW := Hid.mk dW
  have DF := Hid.mk dF
  have NW := Hid.mk nW
  clear dW dF nW k2
  go_enter Tryd.func3, Tryd.ntmps3
  go_wp2_with (first | (go_at_call 6; go_in) | (go_at_call_of 7 (Value.string ⟨W.toArray⟩); refine (HW.out _).mono ?_; rintro e w' ⟨rfl, rfl⟩) | (go_at_call 7; refine (HF.out _).mono ?_; rintro e w' ⟨rfl, rfl⟩))
  clear HW HF
  refine (itoa_any x _ (by omega) (by omega)).mono ?_
  rintro e w1 ⟨A1, rfl, sA1, hb1⟩
  have SA1 := Hid.mk sA1
  have lA1 := spells_len sA1
  clear sA1
  go_wp2_with fail
  refine (zeros_any l _ h1).mono ?_
  rintro e w2 ⟨rfl, hb2⟩
  have hb2 : Below w.heap.size w w2 := hb1.trans (hb2.mono hb1.size)
  clear hb1
  obtain ⟨Zl, hZl⟩ : ∃ Z, List.replicate l (48 : UInt8) = Z := ⟨_, rfl⟩
  have lZl : Zl.length ≤ 64 := by rw [← hZl]; simpa using h1
  have dZl : Hid (Digs Zl) := by rw [← hZl]; exact digs_zeros l
  rw [hZl]
  have HZl := Hid.mk hZl
  clear hZl
  go_wp2_with fail
  refine (zeros_any r _ h3).mono ?_
  rintro e w3 ⟨rfl, hb3⟩
  have hb3 : Below w.heap.size w w3 := hb2.trans (hb3.mono hb2.size)
  clear hb2
  obtain ⟨Zr, hZr⟩ : ∃ Z, List.replicate r (48 : UInt8) = Z := ⟨_, rfl⟩
  have lZr : Zr.length ≤ 64 := by rw [← hZr]; simpa using h3
  have dZr : Hid (Digs Zr) := by rw [← hZr]; exact digs_zeros r
  rw [hZr]
  have HZr := Hid.mk hZr
  clear hZr
  go_wp2_with fail
  refine (itoa_any _ _ (by omega) (by omega)).mono ?_
  rintro e w4 ⟨A2, rfl, sA2, hb4⟩
  have hb4 : Below w.heap.size w w4 := hb3.trans (hb4.mono hb3.size)
  clear hb3
  have SA2 := Hid.mk sA2
  have lA2 := spells_len sA2
  clear sA2
  go_wp2_with fail
  refine (zeros_any l _ h1).mono ?_
  rintro e w5 ⟨rfl, hb5⟩
  have hb5 : Below w.heap.size w w5 := hb4.trans (hb5.mono hb4.size)
  clear hb4
  rw [HZl.out]
  go_wp2_with fail
  refine (itoa_any _ _ (by omega) (by omega)).mono ?_
  rintro e w6 ⟨A3, rfl, sA3, hb6⟩
  have hb6 : Below w.heap.size w w6 := hb5.trans (hb6.mono hb5.size)
  clear hb5
  have SA3 := Hid.mk sA3
  have lA3 := spells_len sA3
  clear sA3
  obtain ⟨n, p, G, a1, b1, a2, b2, a3, b3, hG, hG0, hG1, e1, c1, e2, c2, e3, c3⟩ := agree true W [] x l r
  rw [HZl.out, HZr.out] at e2
  rw [HZl.out] at e3
  rw [show x - (([] : List UInt8).length : Int) - (r : Int) = x - r by simp] at e2
  have E1 := Hid.mk e1
  have E2 := Hid.mk e2
  have E3 := Hid.mk e3
  have C1 := Hid.mk c1
  have C2 := Hid.mk c2
  have C3 := Hid.mk c3
  have HG := Hid.mk hG
  have HG0 := Hid.mk hG0
  have HG1 := Hid.mk hG1
  have gl : G.length ≤ 1048576 := by
    rw [hG]
    have t1 := tr_len (tl (W ++ []))
    have t2 := tl_len (W ++ [])
    rw [List.length_append] at t2
    rw [List.length_nil] at t2
    omega
  have la1 : a1.length + b1.length = G.length := by rw [← c1]; simp
  have la2 : a2.length + b2.length = G.length := by rw [← c2]; simp
  have la3 : a3.length + b3.length = G.length := by rw [← c3]; simp
  have y1 : a1.length ≤ 1048576 ∧ b1.length ≤ 1048576 := by omega
  have y2 : a2.length ≤ 1048576 ∧ b2.length ≤ 1048576 := by omega
  have y3 : a3.length ≤ 1048576 ∧ b3.length ≤ 1048576 := by omega
  clear e1 e2 e3 c1 c2 c3 hG hG0 hG1 la1 la2 la3
  go_wp2_with fail
  refine (zzparse_str _ true W [] A1 x _ (by rw [app_mk, app_mk, app_mk]; simp [txt]) NW.out DW.out DF.out SA1.out (by omega) (by omega) (by simp; omega)).mono ?_
  rintro e w7 ⟨rfl, hb7⟩
  have hb7 : Below w.heap.size w w7 := hb6.trans (hb7.mono hb6.size)
  clear hb6
  rw [E1.out]
  unfold dvl
  go_wp2_with fail
  refine (zzparse_str _ true (Zl ++ (W ++ ([] ++ Zr))) [] A2 _ _ (by rw [app_mk, app_mk, app_mk, app_mk, app_mk, app_mk]; simp [txt]) (by simp [NW.out]) (digs_app dZl.out (digs_app DW.out (digs_app DF.out dZr.out))) (by intro c hc; simp at hc) SA2.out (by omega) (by omega) (by simp; omega)).mono ?_
  rintro e w8 ⟨rfl, hb8⟩
  rw [E2.out]
  unfold dvl
  have d18 : Dec w8 w7.heap.size n a1 b1 p := (dec_new w7 n a1 b1 p).below hb8
  have hb8 : Below w.heap.size w w8 := (hb7.alloc hb7.size _).trans (hb8.mono (by rw [World.size_alloc]; have := hb7.size; omega))
  clear hb7
  go_wp2_with fail
  refine (zzparse_str _ true [48] (Zl ++ (W ++ [])) A3 _ _ (by rw [app_mk, app_mk, app_mk, app_mk, app_mk, app_mk]; simp [txt, NW.out]) (by simp) (fun c hc => by rw [List.mem_singleton.1 hc]; rfl) (digs_app dZl.out (digs_app DW.out DF.out)) SA3.out (by omega) (by omega) (by simp; omega)).mono ?_
  rintro e w9 ⟨rfl, hb9⟩
  rw [E3.out]
  unfold dvl
  have d19 : Dec w9 w7.heap.size n a1 b1 p := (d18.alloc _).below hb9
  have d29 : Dec w9 w8.heap.size n a2 b2 p := (dec_new w8 n a2 b2 p).below hb9
  have hb9 : Below w.heap.size w w9 := (hb8.alloc hb8.size _).trans (hb9.mono (by rw [World.size_alloc]; have := hb8.size; omega))
  clear hb8 d18
  obtain ⟨g0, g1, g2, g3, gz⟩ := d19
  go_wp2_with fail
  refine (parts_any n _ _ p _).mono ?_
  rintro e w10 ⟨rfl, hb10⟩
  have dA : Dec w10 w7.heap.size n a1 b1 p := ((Dec.alloc ⟨g0, g1, g2, g3, gz⟩ _).below hb10)
  have dB : Dec w10 w8.heap.size n a2 b2 p := (d29.alloc _).below hb10
  have dC : Dec w10 w9.heap.size n a3 b3 p := (dec_new w9 n a3 b3 p).below hb10
  have hb10 : Below w.heap.size w w10 := (hb9.alloc hb9.size _).trans (hb10.mono (by rw [World.size_alloc]; have := hb9.size; omega))
  clear hb9 d29 g0 g1 g2 g3 gz
  obtain ⟨g0, g1, g2, g3, gz⟩ := dB
  go_wp2_with fail
  refine (parts_any n _ _ p _).mono ?_
  rintro e w11 ⟨rfl, hb11⟩
  have dA := dA.below hb11
  have dB : Dec w11 w8.heap.size n a2 b2 p := Dec.below ⟨g0, g1, g2, g3, gz⟩ hb11
  have dC := dC.below hb11
  have hb11 : Below w.heap.size w w11 := hb10.trans (hb11.mono hb10.size)
  clear hb10 g0 g1 g2 g3 gz
  obtain ⟨g0, g1, g2, g3, gz⟩ := dC
  go_wp2_with fail
  refine (parts_any n _ _ p _).mono ?_
  rintro e w12 ⟨rfl, hb12⟩
  have dA := dA.below hb12
  have dB := dB.below hb12
  have dC : Dec w12 w9.heap.size n a3 b3 p := Dec.below ⟨g0, g1, g2, g3, gz⟩ hb12
  have hb12 : Below w.heap.size w w12 := hb11.trans (hb12.mono hb11.size)
  clear hb11 g0 g1 g2 g3 gz
  go_wp2_with fail
  refine (trimz_str _ W [] _ (by rw [app_mk]) (by simp; omega)).mono ?_
  rintro e w' ⟨rfl, rfl⟩
  rw [← HG.out]
  have q1 := tol_app a1 b1
  have q2 := tol_app a2 b2
  have q3 := tol_app a3 b3
  rw [C1.out] at q1
  rw [C2.out] at q2
  rw [C3.out] at q3
  have HC : Hid (∀ u v u' v' : List UInt8, u ++ v = G → u' ++ v' = G → u.length ≤ 1048576 ∧ v.length ≤ 1048576 → u'.length ≤ 1048576 ∧ v'.length ≤ 1048576 → ∀ w', Calls Tryd.prog 13 #[.agg #[.bool n, .string ⟨u.toArray⟩, .string ⟨v.toArray⟩, .int .i64 p], .agg #[.bool n, .string ⟨u'.toArray⟩, .string ⟨v'.toArray⟩, .int .i64 p]] w' fun e w'' => e = .returned (.int .i64 0) ∧ Below w'.heap.size w' w'') := by
    intro u v u' v' e1 e2 l1 l2 w'
    have := zzcmp_any n n ⟨u.toArray⟩ ⟨v.toArray⟩ ⟨u'.toArray⟩ ⟨v'.toArray⟩ p p w' (by rw [size_mk]; omega) (by rw [size_mk]; omega) (by rw [size_mk]; omega) (by rw [size_mk]; omega)
    rw [show (⟨u.toArray⟩ : ByteArray).data.toList ++ (⟨v.toArray⟩ : ByteArray).data.toList = G from e1, show (⟨u'.toArray⟩ : ByteArray).data.toList ++ (⟨v'.toArray⟩ : ByteArray).data.toList = G from e2, cmpD_self] at this
    exact this
  have M12 := Hid.mk (HC.out a1 b1 a2 b2 C1.out C2.out y1 y2)
  have M23 := Hid.mk (HC.out a2 b2 a3 b3 C2.out C3.out y2 y3)
  have M31 := Hid.mk (HC.out a3 b3 a1 b1 C3.out C1.out y3 y1)
  clear HC C1 C2 C3 E1 E2 E3 HG HZl HZr DW DF NW SA1 SA2 SA3 dZl dZr
  cases hg : G.isEmpty
  · obtain rfl : n = true := HG1.out (by intro e; rw [e] at hg; simp at hg)
    clear HG0 HG1
    obtain ⟨g0, g1, g2, g3, gz⟩ := dA
    obtain ⟨i0, i1, i2, i3, iz⟩ := dB
    go_wp2_with fail
    refine (M12.out _).mono ?_
    rintro e w13 ⟨rfl, hb13⟩
    have dA := Dec.below ⟨g0, g1, g2, g3, gz⟩ hb13
    have dB := Dec.below ⟨i0, i1, i2, i3, iz⟩ hb13
    have dC := dC.below hb13
    have hb13 : Below w.heap.size w w13 := hb12.trans (hb13.mono hb12.size)
    clear hb12 g0 g1 g2 g3 gz i0 i1 i2 i3 iz
    obtain ⟨g0, g1, g2, g3, gz⟩ := dB
    obtain ⟨i0, i1, i2, i3, iz⟩ := dC
    go_wp2_with fail
    refine (M23.out _).mono ?_
    rintro e w14 ⟨rfl, hb14⟩
    have dA := dA.below hb14
    have dC := Dec.below ⟨i0, i1, i2, i3, iz⟩ hb14
    have hb14 : Below w.heap.size w w14 := hb13.trans (hb14.mono hb13.size)
    clear hb13 g0 g1 g2 g3 gz i0 i1 i2 i3 iz
    obtain ⟨g0, g1, g2, g3, gz⟩ := dC
    obtain ⟨i0, i1, i2, i3, iz⟩ := dA
    go_wp2_with fail
    refine (M31.out _).mono ?_
    rintro e w15 ⟨rfl, hb15⟩
    have hb15 : Below w.heap.size w w15 := hb14.trans (hb15.mono hb14.size)
    go_wp2
    go_ret
    exact ⟨rfl, hb15⟩
  · obtain ⟨rfl, rfl⟩ := HG0.out (List.isEmpty_iff.1 hg)
    clear HG0 HG1
    obtain ⟨g0, g1, g2, g3, gz⟩ := dA
    obtain ⟨i0, i1, i2, i3, iz⟩ := dB
    go_wp2_with fail
    refine (M12.out _).mono ?_
    rintro e w13 ⟨rfl, hb13⟩
    have dA := Dec.below ⟨g0, g1, g2, g3, gz⟩ hb13
    have dB := Dec.below ⟨i0, i1, i2, i3, iz⟩ hb13
    have dC := dC.below hb13
    have hb13 : Below w.heap.size w w13 := hb12.trans (hb13.mono hb12.size)
    clear hb12 g0 g1 g2 g3 gz i0 i1 i2 i3 iz
    obtain ⟨g0, g1, g2, g3, gz⟩ := dB
    obtain ⟨i0, i1, i2, i3, iz⟩ := dC
    go_wp2_with fail
    refine (M23.out _).mono ?_
    rintro e w14 ⟨rfl, hb14⟩
    have dA := dA.below hb14
    have dC := Dec.below ⟨i0, i1, i2, i3, iz⟩ hb14
    have hb14 : Below w.heap.size w w14 := hb13.trans (hb14.mono hb13.size)
    clear hb13 g0 g1 g2 g3 gz i0 i1 i2 i3 iz
    obtain ⟨g0, g1, g2, g3, gz⟩ := dC
    obtain ⟨i0, i1, i2, i3, iz⟩ := dA
    go_wp2_with fail
    refine (M31.out _).mono ?_
    rintro e w15 ⟨rfl, hb15⟩
    have hb15 : Below w.heap.size w w15 := hb14.trans (hb15.mono hb14.size)
    go_wp2
    go_ret
    exact ⟨rfl, hb15⟩
end Go.Proofs.Qxb6003914aDoor
