import Derived.Test.Qxb6605199aDoorW6
namespace Go.Proofs.Qxb6605199aDoor
open Go.RowKit Go.Lib

theorem mark_BA (w : World) (C : Array Value) (l : List UInt8) (fr : Nat × Nat) (h : C = bufC l) : BA (w.alloc (.cells C 5 fr)) w.heap.size 0 l := by
  subst h
  intro j hj
  rw [Nat.zero_add, World.cell?_alloc_mark]
  unfold bufC bc ba
  simp [hj, List.getD_eq_getElem?_getD]

/-- What the words are where looksLikeHTTP looks at them. -/
def Words (w : World) (A : Option Addr) (wn : Nat) (lw : List UInt8) : Prop := wn = 0 ∨ ∃ B fv, A = some ⟨B, 0, none⟩ ∧ w.cell? ⟨B, 0, none⟩ = some fv ∧ Line w fv lw
theorem Words.below {w w' : World} {A : Option Addr} {wn : Nat} {lw : List UInt8} (h : Words w A wn lw) (hb : Below w.heap.size w w') : Words w' A wn lw := by
  rcases h with h | ⟨B, fv, h1, h2, h3⟩
  · exact .inl h
  · exact .inr ⟨B, fv, h1, by rw [hb.cell (block_lt_of_cell h2)]; exact h2, h3.below hb⟩

theorem signs_post : ∀ i, i < 4 → ba post i ∈ signs := by decide
theorem signs_host : ∀ i, i < 5 → ba host i ∈ signs := by decide
set_option maxHeartbeats 1000000 in
theorem looks (w : World) (v0 : Value) (l : List UInt8) (h0 : Line w v0 l) (A : Option Addr) (wn wc : Nat) (lw : List UInt8) (hwn : wn ≤ 4294967296) (hW : Words w A wn lw) (hA : AF w) (hC : CO w) (hT : Lib.Utf8Tabs 3 4 w) :
    Calls Tryd.prog 9 #[v0, .slice A wn wc] w fun e w' => e = .returned (.bool (ends l || (decide (0 < wn) && (ef lw post || ef lw host)))) ∧ Below w.heap.size w w' := by
  have kc := fun (w : World) (C : Array Value) (n c : Nat) => Lib.run_convert_bytes_const (P := Tryd.prog) w 22 5 C n c Tryd.underlying22 Tryd.underlying5
  have H0 := Hid.mk h0
  have HW := Hid.mk hW
  have HA := Hid.mk hA
  have HC := Hid.mk hC
  have HT := Hid.mk hT
  clear h0 hW hA hC hT
  have hes := ends_sfx l
  obtain ⟨s1, hs1⟩ : ∃ s, s = (hd8 ++ [48]).isSuffixOf l := ⟨_, rfl⟩
  obtain ⟨s2, hs2⟩ : ∃ s, s = (hd8 ++ [49]).isSuffixOf l := ⟨_, rfl⟩
  rw [← hs1, ← hs2] at hes
  rw [hes]
  clear hes
  have HS1 := Hid.mk hs1
  have HS2 := Hid.mk hs2
  clear hs1 hs2
  go_enter Tryd.func9, Tryd.ntmps9
  go_wp2_with fail
  have hb1 := (Below.refl _ w).alloc (Nat.le_refl _) (.cells (bufC (hd8 ++ [48])) 5 (9, 10))
  refine (hs_line _ v0 l (hd8 ++ [48]) (H0.out.below hb1) w.heap.size 9 9 rfl (by omega) (by omega) (mark_BA w _ _ _ rfl)).mono ?_
  intro e w1 h
  obtain ⟨rfl, hw⟩ := h
  have HB1 : Hid (Below w.heap.size w w1) := Hid.mk (by rw [hw]; exact hb1)
  clear hw hb1
  rw [← HS1.out]
  cases s1 with
  | true =>
    go_wp2
    go_ret
    exact ⟨rfl, HB1.out⟩
  | false =>
    go_wp2_with fail
    have hb2 := (Below.refl _ w1).alloc (Nat.le_refl _) (.cells (bufC (hd8 ++ [49])) 5 (9, 10))
    refine (hs_line _ v0 l (hd8 ++ [49]) ((H0.out.below HB1.out).below hb2) w1.heap.size 9 9 rfl (by omega) (by omega) (mark_BA w1 _ _ _ rfl)).mono ?_
    intro e w2 h
    obtain ⟨rfl, hw⟩ := h
    have HB2 : Hid (Below w.heap.size w w2) := Hid.mk (by rw [hw]; exact HB1.out.trans (hb2.mono HB1.out.size))
    clear hw hb2
    rw [← HS2.out]
    cases s2 with
    | true =>
      go_wp2
      go_ret
      exact ⟨rfl, HB2.out⟩
    | false =>
      rcases HW.out.below HB2.out with rfl | ⟨B, fv, rfl, hfv, hL⟩
      · go_wp2
        go_ret
        exact ⟨rfl, HB2.out⟩
      · by_cases hn0 : wn = 0
        · subst hn0
          go_wp2
          go_ret
          exact ⟨rfl, HB2.out⟩
        have hn0' : 0 < wn := by omega
        have hdec : decide (0 < wn) = true := decide_eq_true hn0'
        have HD := Hid.mk hdec
        clear hdec
        have HL := Hid.mk hL
        clear hL
        have hfa : ∀ o, (w2.alloc o).cell? ⟨B, 0, none⟩ = some fv := fun o => by
          rw [((Below.refl w2.heap.size w2).alloc (Nat.le_refl _) o).cell (block_lt_of_cell hfv)]; exact hfv
        go_wp2_with fail
        have hb3 := (Below.refl _ w2).alloc (Nat.le_refl _) (.cells (bufC post) 5 (4, 5))
        have hb3' := HB2.out.trans (hb3.mono HB2.out.size)
        refine (fd_line _ fv lw post (HL.out.below hb3) w2.heap.size 4 rfl (by omega) (by omega) (mark_BA w2 _ _ _ rfl) signs_post (HA.out.below hb3') (HC.out.below hb3') (Utf8Tabs_below HT.out hb3')).mono ?_
        intro e w3 h
        obtain ⟨rfl, hb4⟩ := h
        have hb5 : Below w2.heap.size w2 w3 := hb3.trans (hb4.mono hb3.size)
        have HB5 := Hid.mk hb5
        have HB3 : Hid (Below w.heap.size w w3) := Hid.mk (HB2.out.trans (hb5.mono HB2.out.size))
        have hfv3 : w3.cell? ⟨B, 0, none⟩ = some fv := by rw [hb5.cell (block_lt_of_cell hfv)]; exact hfv
        clear hb3 hb3' hb4 hb5 hfa hfv
        obtain ⟨f1, hf1⟩ : ∃ f, f = ef lw post := ⟨_, rfl⟩
        rw [← hf1]
        have HF1 := Hid.mk hf1
        clear hf1
        cases f1 with
        | true =>
          go_wp2
          go_ret
          exact ⟨by rw [HD.out, ← HF1.out]; rfl, HB3.out⟩
        | false =>
          have hfa : ∀ o, (w3.alloc o).cell? ⟨B, 0, none⟩ = some fv := fun o => by
            rw [((Below.refl w3.heap.size w3).alloc (Nat.le_refl _) o).cell (block_lt_of_cell hfv3)]; exact hfv3
          go_wp2_with fail
          have hb6 := (Below.refl _ w3).alloc (Nat.le_refl _) (.cells (bufC host) 5 (5, 6))
          have hb6' := HB3.out.trans (hb6.mono HB3.out.size)
          refine (fd_line _ fv lw host ((HL.out.below HB5.out).below hb6) w3.heap.size 5 rfl (by omega) (by omega) (mark_BA w3 _ _ _ rfl) signs_host (HA.out.below hb6') (HC.out.below hb6') (Utf8Tabs_below HT.out hb6')).mono ?_
          intro e w4 h
          obtain ⟨rfl, hb7⟩ := h
          have HB4 : Hid (Below w.heap.size w w4) := Hid.mk (hb6'.trans (hb7.mono hb6'.size))
          clear hb6 hb6' hb7 hfa hfv3
          obtain ⟨f2, hf2⟩ : ∃ f, f = ef lw host := ⟨_, rfl⟩
          rw [← hf2]
          have HF2 := Hid.mk hf2
          clear hf2
          go_wp2
          go_ret
          exact ⟨by rw [HD.out, ← HF1.out, ← HF2.out]; rfl, HB4.out⟩
/-- ZZlooksLikeHTTP. -/
theorem zz_looks (w : World) (v0 : Value) (l : List UInt8) (h0 : Line w v0 l) (A : Option Addr) (wn wc : Nat) (lw : List UInt8) (hwn : wn ≤ 4294967296) (hW : Words w A wn lw) (hA : AF w) (hC : CO w) (hT : Lib.Utf8Tabs 3 4 w) :
    Calls Tryd.prog 6 #[v0, .slice A wn wc] w fun e w' => e = .returned (.bool (ends l || (decide (0 < wn) && (ef lw post || ef lw host)))) ∧ Below w.heap.size w w' := by
  have h := looks w v0 l h0 A wn wc lw hwn hW hA hC hT
  obtain ⟨r, hr⟩ : ∃ r, r = (ends l || (decide (0 < wn) && (ef lw post || ef lw host))) := ⟨_, rfl⟩
  rw [← hr] at h ⊢
  clear h0 hW hA hC hT hr
  go_enter Tryd.func6, Tryd.ntmps6
  go_wp2_with fail
  refine h.mono ?_
  intro e w' h
  obtain ⟨rfl, hb⟩ := h
  have HB := Hid.mk hb
  clear hb
  go_wp2
  go_ret
  exact ⟨rfl, HB.out⟩
end Go.Proofs.Qxb6605199aDoor
