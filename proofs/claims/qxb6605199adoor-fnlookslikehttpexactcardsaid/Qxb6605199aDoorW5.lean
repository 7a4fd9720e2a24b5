import Derived.Test.Qxb6605199aDoorP3
import Derived.Scope
import Derived.WalkMore
import Derived.ScopeJumps
namespace Go.Proofs.Qxb6605199aDoor
open Go.RowKit Go.Lib

/-- What holds at the jump. -/
def JP (w : World) (b off n cap bt m k : Nat) (l p : List UInt8) (a' : Act) (w' : World) : Prop :=
  w' = w ∧ ∃ (i : Nat) (u4 u7 u8 u9 u10 u11 u12 u13 u14 u15 u16 u17 u18 u19 u20 u21 u22 u23 u24 u25 u26 u27 u28 u29 u30 u31 u32 u33 u34 u35 u36 u37 u38 u39 u40 u41 u42 u43 u44 u45 u46 u47 u48 u49 u50 u51 u52 u53 u54 u55 : Value), a' = { tmps := #[.slice (some ⟨b, off, none⟩) n cap, .slice (some ⟨bt, 0, none⟩) m m, undef, undef, u4, .int .i64 i, .int .i64 k, u7, u8, u9, u10, u11, u12, u13, u14, u15, u16, u17, u18, u19, u20, u21, u22, u23, u24, u25, u26, u27, u28, u29, u30, u31, u32, u33, u34, u35, u36, u37, u38, u39, u40, u41, u42, u43, u44, u45, u46, u47, u48, u49, u50, u51, u52, u53, u54, u55, undef, undef, undef, undef, undef, undef, undef, undef, undef, undef, undef, undef, undef, undef, undef, undef, undef, undef, undef, undef, undef, undef, undef, undef, undef, undef, undef, undef, undef, undef, undef, undef, undef, undef, undef, undef, undef, undef, undef, undef, undef, undef, undef, undef, undef, undef, undef, undef, undef, undef, undef, undef, undef, undef, undef, undef, undef, undef, undef, undef, undef, undef, undef, undef, undef, undef, undef, undef, undef, undef, undef, undef, undef, undef, undef, undef, undef, undef], defers := [] } ∧ i < k ∧ ef l p = ef (l.drop i) (p.drop i)

theorem dec1 (n b off : Nat) (x : Int) (w : World) (hn : 0 < n) (hc : w.cell? ⟨b, off, none⟩ = some (.int .u8 x)) (hx : 0 ≤ x ∧ x < 128) (cap : Nat) :
    Calls Tryd.prog 13 #[.slice (some ⟨b, off, none⟩) n cap] w fun e w' => e = .returned (.tuple #[.int .i32 x, .int .i64 1]) ∧ w' = w := by
  obtain ⟨k, rfl⟩ : ∃ k : Nat, x = k := ⟨x.toNat, by omega⟩
  exact Tryd.utf8_DecodeRune_ascii n b off cap k w (by omega) hc hx.2
theorem AF.below {w w' : World} (h : AF w) (hb : Below w.heap.size w w') : AF w' := fun c hc => by rw [hb.cell (block_lt_of_cell (h c hc))]; exact h c hc
theorem CO.below {w w' : World} (h : CO w) (hb : Below w.heap.size w w') : CO w' := by
  obtain ⟨B, o, cap, h1, hcap, c1, c2, c3, c4, c5, c6, c7, c8⟩ := h
  exact ⟨B, o, cap, by rw [hb.cell (block_lt_of_cell h1)]; exact h1, hcap, by rw [hb.cell (block_lt_of_cell c1)]; exact c1, by rw [hb.cell (block_lt_of_cell c2)]; exact c2, by rw [hb.cell (block_lt_of_cell c3)]; exact c3,
    by rw [hb.cell (block_lt_of_cell c4)]; exact c4, by rw [hb.cell (block_lt_of_cell c5)]; exact c5, by rw [hb.cell (block_lt_of_cell c6)]; exact c6, by rw [hb.cell (block_lt_of_cell c7)]; exact c7, by rw [hb.cell (block_lt_of_cell c8)]; exact c8⟩
/-- The first rune of what is left of a word. -/
theorem dec2 (w : World) (b off n a cp r sz : Nat) (l : List UInt8) (hn : l.length = n) (hB : BA w b off l) (hT : Lib.Utf8Tabs 3 4 w) (hr : decodeGo ⟨(l.drop a).toArray⟩ = (r, sz)) :
    Calls Tryd.prog 13 #[.slice (some ⟨b, off + a, none⟩) (n - a) cp] w fun e w' => e = .returned (.tuple #[.int .i32 r, .int .i64 sz]) ∧ Below w.heap.size w w' := by
  have h := Tryd.utf8_DecodeRune ⟨(l.drop a).toArray⟩ b (off + a) cp w hT (fun j hj => by
    rw [size_mk, List.length_drop] at hj
    rw [Nat.add_assoc, hB (a + j) (by omega), get!_mk, ← ba_drop]
    rfl)
  rw [size_mk, List.length_drop, hn, hr] at h
  exact h
theorem At.of {b off n a len cp : Nat} {A : Addr} (h1 : len = n - a) (h2 : n - a ≤ cp) (h3 : a < n → A = ⟨b, off + a, none⟩) : At b off n a (.slice (some A) len cp) := by
  subst h1
  exact ⟨_, _, rfl, h2, h3⟩
set_option maxHeartbeats 4000000 in
set_option maxRecDepth 1000000 in
theorem fold_some (w : World) (b off n cap : Nat) (l : List UInt8) (hn : l.length = n) (hl : n ≤ cap) (h63 : n ≤ 4294967296) (hB : BA w b off l)
    (bt m : Nat) (p : List UInt8) (hm : p.length = m) (hm5 : m ≤ 5) (hP : BA w bt 0 p) (hpa : ∀ i, i < m → ba p i ∈ signs) (hA : AF w) (hC : CO w) (hT : Lib.Utf8Tabs 3 4 w) :
    Calls Tryd.prog 11 #[.slice (some ⟨b, off, none⟩) n cap, .slice (some ⟨bt, 0, none⟩) m m] w fun e w' => e = .returned (.bool (ef l p)) ∧ Below w.heap.size w w' := by
  have HB := Hid.mk hB
  have HP := Hid.mk hP
  have HN := Hid.mk hn
  have HM := Hid.mk hm
  have HPA := Hid.mk hpa
  have HA := Hid.mk hA
  have HC := Hid.mk hC
  have HT := Hid.mk hT
  clear hB hP hn hm hpa hA hC hT
  obtain ⟨k, hk⟩ : ∃ k, min n m = k := ⟨_, rfl⟩
  have hkI : min (n : Int) (m : Int) = (k : Int) := by omega
  have hkn : k ≤ n := by omega
  have hkm : k ≤ m := by omega
  go_enter Tryd.func11, Tryd.ntmps11
  go_wp2
  refine wp_scope_jumps 0 (JP w b off n cap bt m k l p) (fun _ _ => 0) rfl ?first ?pass
  case first =>
    go_wp2
    go_loop [5] (fun iv => ∃ i : Nat, i ≤ k ∧ iv = .int .i64 i ∧ ef l p = ef (l.drop i) (p.drop i)) (fun iv => k - (RowKit.intOf iv).toNat)
    case atStart => exact ⟨0, by omega, rfl, by simp⟩
    case round =>
      obtain ⟨i, hi, rfl, hS⟩ := hrel
      have HS := Hid.mk hS
      clear hS
      by_cases hi' : i < k
      · have hst := ef_step l p i i (by rw [HN.out]; omega) (by rw [HM.out]; omega)
        have hc := HB.out i (by rw [HN.out]; omega)
        have hcp := HP.out i (by rw [HM.out]; omega)
        rw [Nat.zero_add] at hcp
        have hbx := ba_bd l i
        have hby := ba_bd p i
        have hyy := HPA.out i (by omega)
        obtain ⟨x, hx⟩ : ∃ x, x = ba l i := ⟨_, rfl⟩
        obtain ⟨y, hy⟩ : ∃ y, y = ba p i := ⟨_, rfl⟩
        rw [← hx] at hst hc hbx
        rw [← hy] at hst hcp hby hyy
        have ho := or_iff hbx hyy
        have hy128 := signs_lt hyy
        have HE := Hid.mk hst
        clear hx hy hst hyy
        by_cases h128 : x < 128
        · have ho' : bits BinOp.or IntKind.u8 x y < 128 := by omega
          clear ho
          have hN3 : ¬ ((y = 83 ∨ y = 115) ∧ x = 197 ∧ i + 1 < l.length ∧ ba l (i + 1) = 191) := by omega
          by_cases e1 : x = y
          · subst e1
            go_wp2
            go_round
            case rel => exact ⟨i + 1, by omega, by go_num, by rw [HS.out, HE.out, if_pos rfl]⟩
            case measure => simp [RowKit.intOf]; omega
          · have n1 : (y == x) = false := by rw [beq_eq_false_iff_ne]; omega
            by_cases e2 : pair x y
            · have HR : Hid (ef l p = ef (l.drop (i + 1)) (p.drop (i + 1))) := Hid.mk (by rw [HS.out, HE.out, if_neg e1, if_pos e2])
              have HE2 := Hid.mk e2
              rcases e2 with ⟨q1, q2, rfl⟩ | ⟨q1, q2, rfl⟩
              · go_wp2
                go_round
                case rel => exact ⟨i + 1, by omega, by go_num, HR.out⟩
                case measure => simp [RowKit.intOf]; omega
              · go_wp2
                go_round
                case rel => exact ⟨i + 1, by omega, by go_num, HR.out⟩
                case measure => simp [RowKit.intOf]; omega
            · have HF : Hid (ef l p = false) := Hid.mk (by rw [HS.out, HE.out, if_neg e1, if_neg e2, if_neg hN3])
              clear hN3
              have HE2 := Hid.mk e2
              clear e2
              by_cases hlt : y < x
              · go_wp2
                all_goals first
                  | (exfalso; have q2 := HE2.out; unfold pair at q2; simp_all; omega)
                  | (simp only [Exit.jump]; go_ret; exact ⟨by rw [HF.out]; rfl, Below.refl _ _⟩)
              · go_wp2
                all_goals first
                  | (exfalso; have q2 := HE2.out; unfold pair at q2; simp_all; omega)
                  | (simp only [Exit.jump]; go_ret; exact ⟨by rw [HF.out]; rfl, Below.refl _ _⟩)
        · have ho' : 128 ≤ bits BinOp.or IntKind.u8 x y := ho.2 (by omega)
          clear ho
          go_wp2
          go_step3
          exact ⟨rfl, rfl, i, _, _, _, _, _, _, _, _, _, _, _, _, _, _, _, _, _, _, _, _, _, _, _, _, _, _, _, _, _, _, _, _, _, _, _, _, _, _, _, _, _, _, _, _, _, _, _, _, _, _, rfl, hi', HS.out⟩
      · obtain rfl : i = k := by omega
        have HF : Hid (ef l p = ((n : Int) == (m : Int))) := Hid.mk (by rw [HS.out]; exact ef_end l p n m i HN.out HM.out hk)
        go_wp2
        simp only [Exit.jump]
        go_ret
        refine ⟨?_, Below.refl _ _⟩
        rw [HF.out]
        rfl
  case pass =>
    intro a0 w0 hJ
    obtain ⟨hw, i, u4, u7, u8, u9, u10, u11, u12, u13, u14, u15, u16, u17, u18, u19, u20, u21, u22, u23, u24, u25, u26, u27, u28, u29, u30, u31, u32, u33, u34, u35, u36, u37, u38, u39, u40, u41, u42, u43, u44, u45, u46, u47, u48, u49, u50, u51, u52, u53, u54, u55, rfl, hi, hS⟩ := hJ
    subst hw
    have HS := Hid.mk hS
    clear hS
    have hin : i < n := by omega
    have him : i < m := by omega
    have hic : i < cap := by omega
    go_wp2
    go_loopw [0, 1] (fun v0 v1 wr => ∃ a c : Nat, a ≤ n ∧ c ≤ m ∧ At b off n a v0 ∧ At bt 0 m c v1 ∧ ef l p = ef (l.drop a) (p.drop c) ∧ Below w0.heap.size w0 wr) (fun _ v1 _ => lenOf v1)
    case atStart => exact ⟨i, i, by omega, by omega, ⟨_, _, rfl, by omega, fun _ => rfl⟩, ⟨_, _, rfl, by omega, fun _ => by rw [Nat.zero_add]⟩, HS.out, Below.refl _ _⟩
    case round =>
      obtain ⟨a, c, ha, hc, ⟨A, cp, rfl, hcp, hAa⟩, ⟨D, dp, rfl, hdp, hDd⟩, hE, hbel⟩ := hrel
      have HE := Hid.mk hE
      have HBEL := Hid.mk hbel
      clear hE hbel HS
      by_cases hfin : a < n ∧ c < m
      · obtain ⟨han, hcm⟩ := hfin
        obtain rfl := hAa han
        obtain rfl := hDd hcm
        clear hAa hDd
        have hc := BA.below HB.out HBEL.out a (by rw [HN.out]; exact han)
        have hcq := BA.below HP.out HBEL.out c (by rw [HM.out]; exact hcm)
        rw [Nat.zero_add] at hcq
        rw [Nat.zero_add]
        have hyy := HPA.out c hcm
        have hna : 0 < n - a := by omega
        have hmc : 0 < m - c := by omega
        have hb1 : (((n - a : Nat) : Int) != 0) = true := by rw [bne_iff_ne]; omega
        have hb2 : (((m - c : Nat) : Int) != 0) = true := by rw [bne_iff_ne]; omega
        by_cases h128 : ba l a < 128
        · have hst := ef_step l p a c (by rw [HN.out]; exact han) (by rw [HM.out]; exact hcm)
          have hbx := ba_bd l a
          have hby := ba_bd p c
          obtain ⟨x, hx⟩ : ∃ x, x = ba l a := ⟨_, rfl⟩
          obtain ⟨y, hy⟩ : ∃ y, y = ba p c := ⟨_, rfl⟩
          rw [← hx] at hst hc hbx h128
          rw [← hy] at hst hcq hby hyy
          have hy128 := signs_lt hyy
          have HEE := Hid.mk hst
          clear hx hy hst hyy
          have hN3 : ¬ ((y = 83 ∨ y = 115) ∧ x = 197 ∧ a + 1 < l.length ∧ ba l (a + 1) = 191) := by omega
          have d1 := dec1 (n - a) b (off + a) x wr hna hc ⟨hbx.1, h128⟩ cp
          have d2 := dec1 (m - c) bt c y wr hmc hcq ⟨hby.1, by omega⟩ dp
          clear hc hcq
          by_cases e1 : x = y
          · have HR : Hid (ef l p = ef (l.drop (a + 1)) (p.drop (c + 1))) := Hid.mk (by rw [HE.out, HEE.out, if_pos e1])
            subst e1
            clear HE HEE
            rcases Classical.em (cp = 1) with rfl | h1 <;> rcases Classical.em (dp = 1) with rfl | h2
            all_goals
              go_wp2_with fail
              refine d1.mono ?_
              intro e w' h
              obtain ⟨rfl, hw⟩ := h
              have hw := hw.symm
              subst hw
              go_wp2_with fail
              refine d2.mono ?_
              intro e w' h
              obtain ⟨rfl, hw⟩ := h
              have hw := hw.symm
              subst hw
              go_wp2
              go_roundw
              case rel => exact ⟨a + 1, c + 1, by omega, by omega, At.of (by omega) (by omega) (fun h => by first | rfl | (exfalso; omega)), At.of (by omega) (by omega) (fun h => by first | (exfalso; omega) | (rw [Nat.zero_add])), HR.out, HBEL.out⟩
              case measure => simp only [lenOf]; omega
          · have n1 : (y == x) = false := by rw [beq_eq_false_iff_ne]; omega
            by_cases e2 : pair x y
            · have HR : Hid (ef l p = ef (l.drop (a + 1)) (p.drop (c + 1))) := Hid.mk (by rw [HE.out, HEE.out, if_neg e1, if_pos e2])
              clear HE HEE
              have HE2 := Hid.mk e2
              rcases e2 with ⟨q1, q2, rfl⟩ | ⟨q1, q2, rfl⟩ <;> rcases Classical.em (cp = 1) with rfl | h1 <;> rcases Classical.em (dp = 1) with rfl | h2
              all_goals
                go_wp2_with fail
                refine d1.mono ?_
                intro e w' h
                obtain ⟨rfl, hw⟩ := h
                have hw := hw.symm
                subst hw
                go_wp2_with fail
                refine d2.mono ?_
                intro e w' h
                obtain ⟨rfl, hw⟩ := h
                have hw := hw.symm
                subst hw
                go_wp2
                go_roundw
                case rel => exact ⟨a + 1, c + 1, by omega, by omega, At.of (by omega) (by omega) (fun h => by first | rfl | (exfalso; omega)), At.of (by omega) (by omega) (fun h => by first | (exfalso; omega) | (rw [Nat.zero_add])), HR.out, HBEL.out⟩
                case measure => simp only [lenOf]; omega
            · have HF : Hid (ef l p = false) := Hid.mk (by rw [HE.out, HEE.out, if_neg e1, if_neg e2, if_neg hN3])
              clear hN3 HE HEE
              have HE2 := Hid.mk e2
              clear e2
              rcases Int.lt_or_le y x with hlt | hlt <;> rcases Classical.em (cp = 1) with rfl | h1 <;> rcases Classical.em (dp = 1) with rfl | h2
              all_goals
                go_wp2_with fail
                refine d1.mono ?_
                intro e w' h
                obtain ⟨rfl, hw⟩ := h
                have hw := hw.symm
                subst hw
                go_wp2_with fail
                refine d2.mono ?_
                intro e w' h
                obtain ⟨rfl, hw⟩ := h
                have hw := hw.symm
                subst hw
                go_wp2
                all_goals first
                  | (exfalso; have q2 := HE2.out; unfold pair at q2; simp_all; omega)
                  | (simp only [Exit.jump]; go_ret; exact ⟨by rw [HF.out]; rfl, HBEL.out⟩)
        · have hbg := ef_big l p a c (by rw [HN.out]; exact han) (by rw [HM.out]; exact hcm) (by omega) hyy
          have hdb := dec_big (l.drop a) (by rw [List.length_drop, HN.out]; omega) (by rw [ba_drop, Nat.add_zero]; omega)
          obtain ⟨⟨r, sz⟩, hr⟩ : ∃ q, decodeGo ⟨(l.drop a).toArray⟩ = q := ⟨_, rfl⟩
          rw [hr] at hbg hdb
          rw [List.length_drop, HN.out] at hdb
          simp only at hbg hdb
          obtain ⟨hr1, hr2, hs1, hs2, h383, -⟩ := hdb
          have d1 := dec2 wr b off n a cp r sz l HN.out (BA.below HB.out HBEL.out) (Utf8Tabs_below HT.out HBEL.out) hr
          change wr.cell? ⟨bt, c, none⟩ = some (.int .u8 ((p.getD c 0).toNat : Int)) at hcq
          change ((p.getD c 0).toNat : Int) ∈ signs at hyy
          obtain ⟨y, hy⟩ : ∃ y, y = (p.getD c 0).toNat := ⟨_, rfl⟩
          rw [← hy] at hbg hcq hyy
          have hy128 := signs_lt hyy
          have HBG := Hid.mk hbg
          have HYY := Hid.mk hyy
          have H383 := Hid.mk h383
          clear hr hy hbg hyy hc h383
          have hlt : (y : Int) < (r : Int) := by omega
          have n1 : ((y : Int) == (r : Int)) = false := by rw [beq_eq_false_iff_ne]; omega
          by_cases hs : r = 383 ∧ (y = 83 ∨ y = 115)
          · have HR : Hid (ef l p = ef (l.drop (a + 2)) (p.drop (c + 1))) := Hid.mk (by rw [HE.out, HBG.out, if_pos hs])
            obtain rfl : sz = 2 := (H383.out hs.1).2.2.2
            have HSS := Hid.mk hs
            clear hs HE HBG H383
            rcases Classical.em (cp = 2) with rfl | h1 <;> rcases Classical.em (dp = 1) with rfl | h2
            all_goals
              go_wp2_with fail
              refine d1.mono ?_
              intro e w' h
              obtain ⟨rfl, hbl⟩ := h
              have HBL : Hid (Below w0.heap.size w0 w') := Hid.mk (HBEL.out.trans (hbl.mono HBEL.out.size))
              have hcq' := hbl.cell (block_lt_of_cell hcq)
              rw [hcq] at hcq'
              have d2 := dec1 (m - c) bt c y w' hmc hcq' ⟨by omega, by omega⟩
              clear hbl hcq'
              go_wp2_with fail
              refine (d2 _).mono ?_
              intro e w2 h
              obtain ⟨rfl, hw⟩ := h
              have hw := hw.symm
              subst hw
              have hA' := AF.below HA.out HBL.out
              have hC' := CO.below HC.out HBL.out
              go_wp2_with fail
              refine (fold_any y (.inl (by omega)) w' hA' hC').mono ?_
              intro e w2 h
              obtain ⟨rfl, hw⟩ := h
              have hw := hw.symm
              subst hw
              clear d1 d2
              go_wp2
              go_loop [12] (fun v => ∃ z : Nat, v = .int .i32 z ∧ Spin y r z) (fun v => rk y (RowKit.intOf v).toNat)
              case atStart => exact ⟨nxt y, rfl, spin_start r HYY.out⟩
              case round =>
                obtain ⟨z, rfl, hS⟩ := hrel
                have HSP := Hid.mk hS
                clear hS
                have hz3 := spin_bd HYY.out HSP.out
                by_cases hz : z = y ∨ r ≤ z
                · obtain rfl : z = r := (spin_end HYY.out HSP.out hz hr1).2 HSS.out
                  have z1 : ((z : Int) != (y : Int)) = true := by rw [bne_iff_ne]; omega
                  go_wp2
                  go_roundw
                  case rel => exact ⟨a + 2, c + 1, by omega, by omega, At.of (by omega) (by omega) (fun h => by first | rfl | (exfalso; omega)), At.of (by omega) (by omega) (fun h => by first | (exfalso; omega) | (rw [Nat.zero_add])), HR.out, HBL.out⟩
                  case measure => simp only [lenOf]; omega
                · have z1 : ((z : Int) != (y : Int)) = true := by rw [bne_iff_ne]; omega
                  have z2 : (z : Int) < (r : Int) := by omega
                  have HST := Hid.mk (spin_step HYY.out HSP.out (by omega) (by omega))
                  go_wp2_with fail
                  refine (fold_any z hz3 w' hA' hC').mono ?_
                  intro e w2 h
                  obtain ⟨rfl, hw⟩ := h
                  have hw := hw.symm
                  subst hw
                  go_wp2
                  go_round
                  case rel => exact ⟨nxt z, rfl, HST.out.1⟩
                  case measure => simpa [RowKit.intOf] using HST.out.2
          · have HF : Hid (ef l p = false) := Hid.mk (by rw [HE.out, HBG.out, if_neg hs])
            have HNS := Hid.mk hs
            have hsc : sz ≤ cp := by omega
            clear hs HE HBG H383
            rcases Classical.em (cp = sz) with rfl | h1 <;> rcases Classical.em (dp = 1) with rfl | h2
            all_goals
              go_wp2_with fail
              refine d1.mono ?_
              intro e w' h
              obtain ⟨rfl, hbl⟩ := h
              have HBL : Hid (Below w0.heap.size w0 w') := Hid.mk (HBEL.out.trans (hbl.mono HBEL.out.size))
              have hcq' := hbl.cell (block_lt_of_cell hcq)
              rw [hcq] at hcq'
              have d2 := dec1 (m - c) bt c y w' hmc hcq' ⟨by omega, by omega⟩
              clear hbl hcq'
              go_wp2_with fail
              refine (d2 _).mono ?_
              intro e w2 h
              obtain ⟨rfl, hw⟩ := h
              have hw := hw.symm
              subst hw
              have hA' := AF.below HA.out HBL.out
              have hC' := CO.below HC.out HBL.out
              go_wp2_with fail
              refine (fold_any y (.inl (by omega)) w' hA' hC').mono ?_
              intro e w2 h
              obtain ⟨rfl, hw⟩ := h
              have hw := hw.symm
              subst hw
              clear d1 d2
              go_wp2
              go_loop [12] (fun v => ∃ z : Nat, v = .int .i32 z ∧ Spin y r z) (fun v => rk y (RowKit.intOf v).toNat)
              case atStart => exact ⟨nxt y, rfl, spin_start r HYY.out⟩
              case round =>
                obtain ⟨z, rfl, hS⟩ := hrel
                have HSP := Hid.mk hS
                clear hS
                have hz3 := spin_bd HYY.out HSP.out
                by_cases hz : z = y ∨ r ≤ z
                · have hne : z ≠ r := fun hh => HNS.out ((spin_end HYY.out HSP.out hz hr1).1 hh)
                  have z3 : ((z : Int) == (r : Int)) = false := by rw [beq_eq_false_iff_ne]; omega
                  by_cases hzy : z = y
                  · subst hzy
                    go_wp2
                    simp only [Exit.jump]
                    go_ret
                    exact ⟨by rw [HF.out]; rfl, HBL.out⟩
                  · have z1 : ((z : Int) != (y : Int)) = true := by rw [bne_iff_ne]; omega
                    have z2 : ¬ (z : Int) < (r : Int) := by omega
                    go_wp2
                    simp only [Exit.jump]
                    go_ret
                    exact ⟨by rw [HF.out]; rfl, HBL.out⟩
                · have z1 : ((z : Int) != (y : Int)) = true := by rw [bne_iff_ne]; omega
                  have z2 : (z : Int) < (r : Int) := by omega
                  have HST := Hid.mk (spin_step HYY.out HSP.out (by omega) (by omega))
                  go_wp2_with fail
                  refine (fold_any z hz3 w' hA' hC').mono ?_
                  intro e w2 h
                  obtain ⟨rfl, hw⟩ := h
                  have hw := hw.symm
                  subst hw
                  go_wp2
                  go_round
                  case rel => exact ⟨nxt z, rfl, HST.out.1⟩
                  case measure => simpa [RowKit.intOf] using HST.out.2
      · have HF : Hid (ef l p = (((n - a : Nat) : Int) == ((m - c : Nat) : Int))) := Hid.mk (by rw [HE.out]; exact ef_fin l p n m a c HN.out HM.out ha hc hfin)
        clear hAa hDd
        by_cases han : a < n
        · have hcm : m - c = 0 := by omega
          go_wp2
          simp only [Exit.jump]
          go_ret
          refine ⟨?_, HBEL.out⟩
          rw [HF.out, hcm]
          rfl
        · have han0 : n - a = 0 := by omega
          go_wp2
          simp only [Exit.jump]
          go_ret
          refine ⟨?_, HBEL.out⟩
          rw [HF.out, han0]
          rfl
end Go.Proofs.Qxb6605199aDoor
