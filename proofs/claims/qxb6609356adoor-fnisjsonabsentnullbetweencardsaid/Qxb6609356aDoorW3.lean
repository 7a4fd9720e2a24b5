import Derived.Test.Qxb6609356aDoorW2
namespace Go.Proofs.Qxb6609356aDoor
open Go.RowKit Go.Lib

theorem bf {a b : Int} (h : ¬ a = b) : (a == b) = false := beq_eq_false_iff_ne.2 h

set_option maxHeartbeats 1000000 in
/-- spaceWidth. -/
theorem width_any (w : World) (b off n cap i : Nat) (l : List UInt8) (hn : l.length = n) (hi : i < n) (h63 : n ≤ 4294967296) (hB : BA w b off l) :
    Calls Tryd.prog 18 #[.slice (some ⟨b, off, none⟩) n cap, .int .i64 i] w fun e w' => e = .returned (.int .i64 (swI (n - i) (ba l i) (ba l (i + 1)) (ba l (i + 2)))) ∧ w' = w := by
  have hc := hB i (by omega)
  have hc1 : i + 1 < n → w.cell? ⟨b, off + (i + 1), none⟩ = some (.int .u8 (ba l (i + 1))) := fun h => hB (i + 1) (by omega)
  have hc2 : i + 2 < n → w.cell? ⟨b, off + (i + 2), none⟩ = some (.int .u8 (ba l (i + 2))) := fun h => hB (i + 2) (by omega)
  generalize ba l i = c at *
  generalize ba l (i + 1) = c1 at *
  generalize ba l (i + 2) = c2 at *
  clear hB hn
  have use : ∀ (V : Int), swI (n - i) c c1 c2 = V → Calls Tryd.prog 18 #[.slice (some ⟨b, off, none⟩) n cap, .int .i64 i] w (fun e w' => e = .returned (.int .i64 V) ∧ w' = w) →
      Calls Tryd.prog 18 #[.slice (some ⟨b, off, none⟩) n cap, .int .i64 i] w fun e w' => e = .returned (.int .i64 (swI (n - i) c c1 c2)) ∧ w' = w := fun V h g => by rw [h]; exact g
  by_cases e32 : c = 32
  · subst e32
    exact use 1 (by simp [swI]) (wd_a1 w b off n cap i hi h63 hc)
  by_cases er : 9 ≤ c ∧ c ≤ 13
  · exact use 1 (by unfold swI; rw [if_pos (.inr er)]) (wd_a2 w b off n cap i c hi h63 hc (bf e32) er.1 er.2)
  by_cases e194 : c = 194
  · subst e194
    by_cases hn1 : i + 1 < n
    · by_cases g1 : c1 = 133
      · subst g1
        exact use 2 (by unfold swI; rw [if_neg (by omega), if_pos rfl, if_pos (by omega)]) (wd_b1 w b off n cap i hi h63 hc (hc1 hn1) hn1)
      by_cases g2 : c1 = 160
      · subst g2
        exact use 2 (by unfold swI; rw [if_neg (by omega), if_pos rfl, if_pos (by omega)]) (wd_b2 w b off n cap i hi h63 hc (hc1 hn1) hn1)
      exact use 0 (by unfold swI; rw [if_neg (by omega), if_pos rfl, if_neg (by omega)]) (wd_b3 w b off n cap i c1 hi h63 hc (hc1 hn1) hn1 (bf g1) (bf g2))
    · exact use 0 (by unfold swI; rw [if_neg (by omega), if_pos rfl, if_neg (by omega)]) (wd_b0 w b off n cap i hi h63 hc (by omega))
  by_cases hn2 : i + 2 < n
  · have g1 := hc1 (by omega)
    have g2 := hc2 hn2
    have hs : ∀ V : Int, (if (c = 225 ∧ c1 = 154 ∧ c2 = 128) ∨ (c = 226 ∧ c1 = 128 ∧ ((128 ≤ c2 ∧ c2 ≤ 138) ∨ c2 = 168 ∨ c2 = 169 ∨ c2 = 175)) ∨ (c = 226 ∧ c1 = 129 ∧ c2 = 159) ∨ (c = 227 ∧ c1 = 128 ∧ c2 = 128) then (3 : Int) else 0) = V → swI (n - i) c c1 c2 = V := fun V h => by
      unfold swI
      rw [if_neg (by omega), if_neg e194, if_neg (by omega)]
      exact h
    by_cases e225 : c = 225
    · subst e225
      by_cases k1 : c1 = 154
      · subst k1
        by_cases k2 : c2 = 128
        · subst k2
          exact use 3 (hs 3 (if_pos (by omega))) (wd_e3 w b off n cap i hi h63 hc g1 g2 hn2)
        · exact use 0 (hs 0 (if_neg (by omega))) (wd_e2 w b off n cap i c2 hi h63 hc g1 g2 hn2 (bf k2))
      · exact use 0 (hs 0 (if_neg (by omega))) (wd_e1 w b off n cap i c1 c2 hi h63 hc g1 g2 hn2 (bf k1))
    by_cases e226 : c = 226
    · subst e226
      by_cases k1 : c1 = 128
      · subst k1
        by_cases k2 : 128 ≤ c2 ∧ c2 ≤ 138
        · exact use 3 (hs 3 (if_pos (by omega))) (wd_f2 w b off n cap i c2 hi h63 hc g1 g2 hn2 k2.1 k2.2)
        by_cases k3 : c2 = 168
        · subst k3
          exact use 3 (hs 3 (if_pos (by omega))) (wd_f168 w b off n cap i hi h63 hc g1 g2 hn2)
        by_cases k4 : c2 = 169
        · subst k4
          exact use 3 (hs 3 (if_pos (by omega))) (wd_f169 w b off n cap i hi h63 hc g1 g2 hn2)
        by_cases k5 : c2 = 175
        · subst k5
          exact use 3 (hs 3 (if_pos (by omega))) (wd_f175 w b off n cap i hi h63 hc g1 g2 hn2)
        by_cases k6 : c2 < 128
        · exact use 0 (hs 0 (if_neg (by omega))) (wd_glo w b off n cap i c2 hi h63 hc g1 g2 hn2 k6 (bf k3) (bf k4) (bf k5))
        · exact use 0 (hs 0 (if_neg (by omega))) (wd_ghi w b off n cap i c2 hi h63 hc g1 g2 hn2 (by omega) (bf k3) (bf k4) (bf k5))
      by_cases k7 : c1 = 129
      · subst k7
        by_cases k8 : c2 = 159
        · subst k8
          exact use 3 (hs 3 (if_pos (by omega))) (wd_h1 w b off n cap i hi h63 hc g1 g2 hn2)
        · exact use 0 (hs 0 (if_neg (by omega))) (wd_h2 w b off n cap i c2 hi h63 hc g1 g2 hn2 (bf k8))
      exact use 0 (hs 0 (if_neg (by omega))) (wd_f1 w b off n cap i c1 c2 hi h63 hc g1 g2 hn2 (bf k1) (bf k7))
    by_cases e227 : c = 227
    · subst e227
      by_cases k1 : c1 = 128
      · subst k1
        by_cases k2 : c2 = 128
        · subst k2
          exact use 3 (hs 3 (if_pos (by omega))) (wd_k3 w b off n cap i hi h63 hc g1 g2 hn2)
        · exact use 0 (hs 0 (if_neg (by omega))) (wd_k2 w b off n cap i c2 hi h63 hc g1 g2 hn2 (bf k2))
      · exact use 0 (hs 0 (if_neg (by omega))) (wd_k1 w b off n cap i c1 c2 hi h63 hc g1 g2 hn2 (bf k1))
    by_cases el : c < 9
    · exact use 0 (hs 0 (if_neg (by omega))) (wd_dlo w b off n cap i c c1 c2 hi h63 hc g1 g2 (bf e32) el (bf e194) hn2 (bf e225) (bf e226) (bf e227))
    · exact use 0 (hs 0 (if_neg (by omega))) (wd_dhi w b off n cap i c c1 c2 hi h63 hc g1 g2 (bf e32) (by omega) (bf e194) hn2 (bf e225) (bf e226) (bf e227))
  · have hs : swI (n - i) c c1 c2 = 0 := by
      unfold swI
      rw [if_neg (by omega), if_neg e194, if_pos (by omega)]
    by_cases el : c < 9
    · exact use 0 hs (wd_clo w b off n cap i c hi h63 hc (bf e32) el (bf e194) (by omega))
    · exact use 0 hs (wd_chi w b off n cap i c hi h63 hc (bf e32) (by omega) (bf e194) (by omega))

/-- Where an encoding stands at the head the width is its length. -/
theorem sw_seq : ∀ q ∈ spaceSeqs, ∀ x : List UInt8, swI (q ++ x).length (ba (q ++ x) 0) (ba (q ++ x) 1) (ba (q ++ x) 2) = q.length := by
  intro q hq x
  simp only [spaceSeqs, List.mem_cons, List.mem_nil_iff, or_false] at hq
  rcases hq with rfl | rfl | rfl | rfl | rfl | rfl | rfl | rfl | rfl | rfl | rfl | rfl | rfl | rfl | rfl | rfl | rfl | rfl | rfl | rfl | rfl | rfl | rfl | rfl | rfl <;> simp [swI, ba]
theorem sw_zero {u : List UInt8} (h : swI u.length (ba u 0) (ba u 1) (ba u 2) = 0) : NoHead u := by
  intro q hq x e
  have := sw_seq q hq x
  rw [← e, h] at this
  exact seqs_ne q hq (List.length_eq_zero_iff.1 (by omega))
theorem by_of {u : List UInt8} {k : Nat} {c : Int} (h : ba u k = c) : u.getD k 0 = UInt8.ofNat c.toNat := by
  unfold ba at h; rw [← h]; simp
theorem sw_some {u : List UInt8} {k : Int} (h : swI u.length (ba u 0) (ba u 1) (ba u 2) = k) (hu : u ≠ []) (hk : k ≠ 0) : ∃ q ∈ spaceSeqs, (q.length : Int) = k ∧ ∃ x, u = q ++ x := by
  have h0 := ba_bd u 0
  have h1 := ba_bd u 1
  have h2 := ba_bd u 2
  have hl : 0 < u.length := List.length_pos_iff.2 hu
  unfold swI at h
  by_cases a1 : ba u 0 = 32 ∨ (9 ≤ ba u 0 ∧ ba u 0 ≤ 13)
  · rw [if_pos a1] at h
    refine ⟨u.take 1, ?_, by simp; omega, u.drop 1, (List.take_append_drop 1 u).symm⟩
    rw [take1 u hl, by_of (u := u) (k := 0) rfl]
    exact mem1 ⟨(ba u 0).toNat, by omega⟩ (by simp only; omega)
  rw [if_neg a1] at h
  by_cases a2 : ba u 0 = 194
  · rw [if_pos a2] at h
    by_cases a3 : 1 < u.length ∧ (ba u 1 = 133 ∨ ba u 1 = 160)
    · rw [if_pos a3] at h
      refine ⟨u.take 2, ?_, by simp; omega, u.drop 2, (List.take_append_drop 2 u).symm⟩
      rw [take2 u a3.1, by_of a2, by_of (u := u) (k := 1) rfl]
      exact mem2 ⟨(ba u 1).toNat, by omega⟩ (by simp only; omega)
    · rw [if_neg a3] at h; exact absurd h.symm hk
  rw [if_neg a2] at h
  by_cases a4 : u.length ≤ 2
  · rw [if_pos a4] at h; exact absurd h.symm hk
  rw [if_neg a4] at h
  by_cases a5 : (ba u 0 = 225 ∧ ba u 1 = 154 ∧ ba u 2 = 128) ∨ (ba u 0 = 226 ∧ ba u 1 = 128 ∧ ((128 ≤ ba u 2 ∧ ba u 2 ≤ 138) ∨ ba u 2 = 168 ∨ ba u 2 = 169 ∨ ba u 2 = 175)) ∨ (ba u 0 = 226 ∧ ba u 1 = 129 ∧ ba u 2 = 159) ∨ (ba u 0 = 227 ∧ ba u 1 = 128 ∧ ba u 2 = 128)
  · rw [if_pos a5] at h
    refine ⟨u.take 3, ?_, by simp; omega, u.drop 3, (List.take_append_drop 3 u).symm⟩
    rw [take3 u (by omega)]
    rcases a5 with ⟨g0, g1, g2⟩ | ⟨g0, g1, g2⟩ | ⟨g0, g1, g2⟩ | ⟨g0, g1, g2⟩
    · rw [by_of g0, by_of g1, by_of g2]; decide
    · rw [by_of g0, by_of g1, by_of (u := u) (k := 2) rfl]
      exact mem3 ⟨(ba u 2).toNat, by omega⟩ (by simp only; omega)
    · rw [by_of g0, by_of g1, by_of g2]; decide
    · rw [by_of g0, by_of g1, by_of g2]; decide
  · rw [if_neg a5] at h; exact absurd h.symm hk
theorem ba_drop (l : List UInt8) (i j : Nat) : ba (l.drop i) j = ba l (i + j) := by
  unfold ba
  rw [List.getD_eq_getElem?_getD, List.getD_eq_getElem?_getD, List.getElem?_drop]

set_option maxHeartbeats 1000000 in
/-- skipSpace from the start: it comes to the end just where all is white space. -/
theorem skip_any (w : World) (b off n cap : Nat) (l : List UInt8) (hn : l.length = n) (h63 : n ≤ 4294967296) (hB : BA w b off l) :
    Calls Tryd.prog 12 #[.slice (some ⟨b, off, none⟩) n cap, .int .i64 0] w fun e w' => ∃ r : Nat, e = .returned (.int .i64 r) ∧ (r = n ↔ WS l) ∧ r ≤ n ∧ w = w' := by
  have HB := Hid.mk hB
  have HN := Hid.mk hn
  clear hB hn
  go_enter Tryd.func12, Tryd.ntmps12
  go_wp2
  go_loop [1] (fun i => ∃ k : Nat, k ≤ n ∧ i = .int .i64 k ∧ Hid (WS (l.take k))) (fun i => n - (intOf i).toNat)
  case atStart => exact ⟨0, Nat.zero_le _, rfl, Hid.mk (by simpa using ws_nil)⟩
  case round =>
    obtain ⟨k, hk, rfl, hsp⟩ := hrel
    by_cases hkn : k < n
    · have hw := width_any w b off n cap k l HN.out hkn h63 HB.out
      obtain ⟨V, hV⟩ : ∃ V, swI (n - k) (ba l k) (ba l (k + 1)) (ba l (k + 2)) = V := ⟨_, rfl⟩
      rw [hV] at hw
      have hdl : (l.drop k).length = n - k := by rw [List.length_drop, HN.out]
      have hV2 : swI (l.drop k).length (ba (l.drop k) 0) (ba (l.drop k) 1) (ba (l.drop k) 2) = V := by
        rw [hdl, ba_drop, ba_drop, ba_drop]; exact hV
      have hne : l.drop k ≠ [] := fun e => by rw [e] at hdl; simp at hdl; omega
      have HW := Hid.mk hw
      clear hw hV
      by_cases hz : V = 0
      · subst hz
        have hfin : Hid ((k = n ↔ WS l) ∧ k ≤ n) := by
          refine Hid.mk ⟨⟨fun h => absurd h (by omega), fun h => ?_⟩, hk⟩
          have h1 : WS (l.drop k) := ws_cancel_left hsp.out (by rw [List.take_append_drop]; exact h)
          exact absurd (ws_nohead (y := []) h1 (by rw [List.append_nil]; exact sw_zero hV2)) hne
        clear hV2 hdl hne
        go_wp2_with (go_at_call 18; refine HW.out.mono ?_; rintro e w' ⟨rfl, rfl⟩)
        go_ret
        exact ⟨k, rfl, hfin.out.1, hfin.out.2, rfl⟩
      · obtain ⟨q, hq, hql, x, hx⟩ := sw_some hV2 hne hz
        have hq0 : 0 < q.length := List.length_pos_iff.2 (seqs_ne q hq)
        have hkq : k + q.length ≤ n := by
          have := congrArg List.length hx
          rw [hdl, List.length_append] at this; omega
        have hG : Hid (WS (l.take (k + q.length))) := by
          refine Hid.mk ?_
          have : l.take (k + q.length) = l.take k ++ q := by
            rw [List.take_add, hx, List.take_left]
          rw [this]
          exact ws_snoc hq hsp.out
        have tV : (V == 0) = false := bf hz
        have bV : 0 < V ∧ V ≤ 4294967296 := by omega
        have HQ := Hid.mk hql
        clear hV2 hdl hne hx hz hql
        go_wp2_with (go_at_call 18; refine HW.out.mono ?_; rintro e w' ⟨rfl, rfl⟩)
        exact ⟨⟨k + q.length, hkq, by congr 1; have := HQ.out; omega, hG⟩, by simp [intOf]; omega⟩
    · have hfin : Hid ((k = n ↔ WS l) ∧ k ≤ n) := by
        refine Hid.mk ⟨⟨fun _ => ?_, fun _ => by omega⟩, hk⟩
        have := hsp.out
        rwa [List.take_of_length_le (by rw [HN.out]; omega)] at this
      go_wp2
      go_ret
      exact ⟨k, rfl, hfin.out.1, hfin.out.2, rfl⟩
end Go.Proofs.Qxb6609356aDoor
