import Derived.Test.Qxb6605199aDoorW9
namespace Go.Proofs.Qxb6605199aDoor
open Go.RowKit Go.Lib

set_option maxHeartbeats 2000000 in
set_option maxRecDepth 100000 in
theorem law_some (w : World) (A0 : Option Addr) (n0 c0 : Nat) (l : List UInt8) (h0 : n0 ≤ 9223372036854775807) (hS0 : Src w A0 n0 c0 l) (a : Addr) (wn wc : Nat) (A : Nat → Option Addr) (L C : Nat → Nat) (lr : Nat → List UInt8)
    (hwn : wn ≤ 9223372036854775807) (hH : Heads w a wn A L C) (hR : ∀ r, r < wn → Src w (A r) (L r) (C r) (lr r)) (hA : AF w) (hC : CO w) (hT : Lib.Utf8Tabs 3 4 w) :
    Calls Tryd.prog 3 #[.slice A0 n0 c0, .slice (some a) wn wc] w fun e w' => e = .returned (.bool true) ∧ Below w.heap.size w w' := by
  have hby := bytes_some w A0 n0 c0 h0 a wn wc A L C hwn hH
  have HH := Hid.mk hH
  have HS0 := Hid.mk hS0
  have HR := Hid.mk hR
  have HA := Hid.mk hA
  have HC := Hid.mk hC
  have HT := Hid.mk hT
  clear hH hS0 hR hA hC hT
  go_enter Tryd.func3, Tryd.ntmps3
  go_wp2_with fail
  refine hby.mono ?_
  intro e w' h
  obtain ⟨⟨b, rfl, hsh⟩, hw⟩ := h
  have HSH := Hid.mk hsh
  clear hsh
  have hw := hw.symm
  subst hw
  clear hby
  cases b with
  | false =>
    go_wp2
    go_ret
    exact ⟨rfl, Below.refl _ _⟩
  | true =>
    have hsh := HSH.out rfl
    clear HSH
    have HSH := Hid.mk hsh
    clear hsh
    by_cases b1 : n0 ≤ 1048576
    · by_cases b2 : wn ≤ 43690
      · by_cases b3 : n0 + 24 * wn ≤ 1048576
        · go_wp2
          go_loop [5, 6] (fun nv iv => ∃ z i : Nat, z ≤ 1048576 ∧ i ≤ wn ∧ nv = .int .i64 z ∧ iv = .int .i64 i) (fun _ iv => wn - (RowKit.intOf iv).toNat)
          case atStart => exact ⟨n0 + 24 * wn, 0, by omega, by omega, by go_num, rfl⟩
          case round =>
            obtain ⟨z, i, hz, hi, rfl, rfl⟩ := hrel
            by_cases hi' : i < wn
            · obtain ⟨hc, hl⟩ := HH.out i hi'
              have hl1 := HSH.out i hi'
              obtain ⟨Ai, hAi⟩ : ∃ x, x = A i := ⟨_, rfl⟩
              obtain ⟨Li, hLi⟩ : ∃ x, x = L i := ⟨_, rfl⟩
              obtain ⟨Ci, hCi⟩ : ∃ x, x = C i := ⟨_, rfl⟩
              rw [← hAi, ← hLi, ← hCi] at hc
              rw [← hLi] at hl hl1
              clear hAi hLi hCi
              by_cases hl2 : z + Li ≤ 1048576
              · go_wp2
                go_round
                case rel => exact ⟨z + Li, i + 1, by omega, by omega, by go_num, by go_num⟩
                case measure => simp [RowKit.intOf]; omega
              · go_wp2
                go_ret
                exact ⟨rfl, Below.refl _ _⟩
            · obtain rfl : i = wn := by omega
              clear hz hi hi' h0 hwn
              go_wp2_with fail
              refine (copy_src w A0 n0 c0 l HS0.out (by omega)).mono ?_
              intro e w1 h
              obtain ⟨A1, n1, rfl, hL1, hb1⟩ := h
              have HL1 := Hid.mk hL1
              have HB1 := Hid.mk hb1
              have hBw : w.heap.size ≤ w1.heap.size := hb1.size
              clear hL1 hb1
              have hnn := fun w => Lib.run_eql_slice_nil (P := Tryd.prog) w 23 22 (some a) i wc 0 0 Tryd.underlying23
              have hmk := run_make_row' (P := Tryd.prog) 23 22 (.slice none 0 0) 24 Tryd.underlying23 info22 rfl .i64 .i64 i (by omega) (by omega)
              go_wp2
              have HI0 : Hid (Inv w (.slice A1 n1 n1) l w1.heap.size i (lr 0) 0 (w1.alloc (.cells (madeCells #[.slice none 0 0] i) 22))) := Hid.mk (Inv.start i (lr 0) HB1.out HL1.out)
              go_loopw [8] (fun iv wr => ∃ k : Nat, k ≤ i ∧ iv = .int .i64 k ∧ Inv w (.slice A1 n1 n1) l w1.heap.size i (lr 0) k wr) (fun iv _ => i - (RowKit.intOf iv).toNat)
              case atStart => exact ⟨0, by omega, rfl, HI0.out⟩
              case round =>
                clear HI0
                obtain ⟨k, hk, rfl, hI⟩ := hrel
                have HI := Hid.mk hI
                clear hI
                by_cases hk' : k < i
                · have hc := (HH.out k hk').1
                  have hl1 := HSH.out k hk'
                  have hs := HR.out k hk'
                  have hcr : wr.cell? (a.add k) = some (.slice (A k) (L k) (C k)) := by rw [HI.out.1.cell (block_lt_of_cell hc)]; exact hc
                  have hsr := hs.below HI.out.1
                  have hk0 : k = 0 → lr k = lr 0 := fun e => by rw [e]
                  clear hc hs
                  obtain ⟨Ai, hAi⟩ : ∃ x, x = A k := ⟨_, rfl⟩
                  obtain ⟨Li, hLi⟩ : ∃ x, x = L k := ⟨_, rfl⟩
                  obtain ⟨Ci, hCi⟩ : ∃ x, x = C k := ⟨_, rfl⟩
                  obtain ⟨li, hli⟩ : ∃ x, x = lr k := ⟨_, rfl⟩
                  rw [← hAi, ← hLi, ← hCi] at hcr hsr
                  rw [← hLi] at hl1
                  rw [← hli] at hsr hk0
                  have hcp := copy_src wr Ai Li Ci li hsr (by omega)
                  have HK0 := Hid.mk hk0
                  clear hAi hLi hCi hli hsr hk0
                  go_wp2_with fail
                  refine hcp.mono ?_
                  intro e w3 h
                  obtain ⟨A3, n3, rfl, hL3, hb3⟩ := h
                  have HI' : Hid (Inv w (.slice A1 n1 n1) l w1.heap.size i (lr 0) (k + 1) (w3.setCell ⟨w1.heap.size, k, none⟩ (.slice A3 n3 n3))) := Hid.mk (HI.out.step hBw hk' hL3 hb3 HK0.out)
                  obtain ⟨f, hrow, hff, -⟩ := HI.out.2.2
                  have hrow3 := hrow.of_block (hb3.block _ hrow.lt)
                  have hce := hrow3.cell hk'
                  have hfz := hrow3.frozen k
                  clear hrow hff hrow3 hL3 hb3 hcp hcr HI
                  go_wp2
                  go_roundw
                  case rel => exact ⟨k + 1, by omega, by go_num, HI'.out⟩
                  case measure => simp [RowKit.intOf]; omega
                · obtain rfl : k = i := by omega
                  obtain ⟨hbr, hL0, f, hrow, hff, hfirst⟩ := HI.out
                  have hW : Words wr (some ⟨w1.heap.size, 0, none⟩) k (lr 0) := by
                    rcases Nat.eq_zero_or_pos k with h | h
                    · exact .inl h
                    · exact .inr ⟨_, _, rfl, hrow.cell h, hfirst h⟩
                  have hfirst' : 0 < k → wr.cell? ⟨w1.heap.size, 0, none⟩ = some (f 0) ∧ Line wr (f 0) (lr 0) := fun h => ⟨hrow.cell h, hfirst h⟩
                  have HFI := Hid.mk hfirst'
                  have hz := zz_looks wr (.slice A1 n1 n1) l hL0 (some ⟨w1.heap.size, 0, none⟩) k k (lr 0) (by omega) hW (HA.out.below hbr) (HC.out.below hbr) (Utf8Tabs_below HT.out hbr)
                  rw [ef_post, ef_host] at hz
                  have HBR := Hid.mk hbr
                  have HL0 := Hid.mk hL0
                  clear hrow hff hfirst hfirst' hW hbr hL0 HI
                  obtain ⟨lw, hlw⟩ : ∃ x, x = lr 0 := ⟨_, rfl⟩
                  rw [← hlw] at hz HFI
                  clear hlw HR
                  obtain ⟨fv, hfv⟩ : ∃ x, x = f 0 := ⟨_, rfl⟩
                  rw [← hfv] at HFI
                  clear hfv
                  obtain ⟨E, hE⟩ : ∃ x, x = ends l := ⟨_, rfl⟩
                  obtain ⟨S1, hS1⟩ : ∃ x, x = sp lw post := ⟨_, rfl⟩
                  obtain ⟨S2, hS2⟩ : ∃ x, x = sp lw HOST := ⟨_, rfl⟩
                  rw [← hE, ← hS1, ← hS2] at hz
                  have HE := Hid.mk hE
                  have HS1 := Hid.mk hS1
                  have HS2 := Hid.mk hS2
                  clear hE hS1 hS2
                  obtain ⟨G, hG⟩ : ∃ x, x = (E || (decide (0 < k) && (S1 || S2))) := ⟨_, rfl⟩
                  rw [← hG] at hz
                  have HG := Hid.mk hG
                  clear hG
                  go_wp2_with fail
                  refine hz.mono ?_
                  intro e w4 h
                  obtain ⟨rfl, hb4⟩ := h
                  have hen := ends_line w4 (.slice A1 n1 n1) l (HL0.out.below hb4)
                  rw [← HE.out] at hen
                  have HB4 := Hid.mk hb4
                  clear hb4 hz
                  go_wp2_with fail
                  refine hen.mono ?_
                  intro e w5 h
                  obtain ⟨rfl, hb5⟩ := h
                  have HB5 : Hid (Below wr.heap.size wr w5) := Hid.mk (HB4.out.trans (hb5.mono HB4.out.size))
                  have HB : Hid (Below w.heap.size w w5) := Hid.mk (HBR.out.trans (HB5.out.mono HBR.out.size))
                  clear hb5 hen
                  cases E with
                  | true =>
                    obtain rfl : G = true := by rw [HG.out]; rfl
                    go_wp2
                    go_ret
                    exact ⟨rfl, HB.out⟩
                  | false =>
                    rcases Nat.eq_zero_or_pos k with hk0 | hk0
                    · obtain rfl : G = false := by rw [HG.out, hk0]; rfl
                      subst hk0
                      go_wp2
                      go_ret
                      exact ⟨rfl, HB.out⟩
                    · have hG : G = (S1 || S2) := by rw [HG.out, decide_eq_true hk0]; rfl
                      clear HG
                      have HG := Hid.mk hG
                      clear hG
                      obtain ⟨hfc, hfl⟩ := HFI.out hk0
                      have hfc5 : w5.cell? ⟨w1.heap.size, 0, none⟩ = some fv := by rw [HB5.out.cell (block_lt_of_cell hfc)]; exact hfc
                      have hfl5 := hfl.below HB5.out
                      have p1 := spells_line w5 fv lw hfl5 ⟨#[80, 79, 83, 84]⟩ (by decide) (by decide)
                      have p2 := spells_line w5 fv lw hfl5 ⟨#[72, 79, 83, 84, 58]⟩ (by decide) (by decide)
                      rw [show sp lw (⟨#[80, 79, 83, 84]⟩ : ByteArray).data.toList = S1 from HS1.out.symm] at p1
                      rw [show sp lw (⟨#[72, 79, 83, 84, 58]⟩ : ByteArray).data.toList = S2 from HS2.out.symm] at p2
                      clear hfc hfl hfl5 HFI
                      go_wp2_with fail
                      refine p1.mono ?_
                      intro e w6 h
                      obtain ⟨rfl, hw6⟩ := h
                      have hw6 := hw6.symm
                      subst hw6
                      cases S1 with
                      | true =>
                        obtain rfl : G = true := by rw [HG.out]; rfl
                        go_wp2
                        go_ret
                        exact ⟨rfl, HB.out⟩
                      | false =>
                        obtain rfl : G = S2 := by rw [HG.out]; rfl
                        go_wp2_with fail
                        refine p2.mono ?_
                        intro e w6 h
                        obtain ⟨rfl, hw6⟩ := h
                        have hw6 := hw6.symm
                        subst hw6
                        cases G with
                        | true =>
                          go_wp2
                          go_ret
                          exact ⟨rfl, HB.out⟩
                        | false =>
                          go_wp2
                          go_ret
                          exact ⟨rfl, HB.out⟩
        · go_wp2
          go_ret
          exact ⟨rfl, Below.refl _ _⟩
      · go_wp2
        go_ret
        exact ⟨rfl, Below.refl _ _⟩
    · go_wp2
      go_ret
      exact ⟨rfl, Below.refl _ _⟩
set_option maxHeartbeats 2000000 in
set_option maxRecDepth 100000 in
theorem law_nil (w : World) (A0 : Option Addr) (n0 c0 : Nat) (l : List UInt8) (h0 : n0 ≤ 9223372036854775807) (hS0 : Src w A0 n0 c0 l) (hA : AF w) (hC : CO w) (hT : Lib.Utf8Tabs 3 4 w) :
    Calls Tryd.prog 3 #[.slice A0 n0 c0, .slice none 0 0] w fun e w' => e = .returned (.bool true) ∧ Below w.heap.size w w' := by
  have hby := bytes_nil w A0 n0 c0 h0
  have HS0 := Hid.mk hS0
  have HA := Hid.mk hA
  have HC := Hid.mk hC
  have HT := Hid.mk hT
  clear hS0 hA hC hT
  have hnn := fun w => Lib.run_eql_slice_nil (P := Tryd.prog) w 23 22 none 0 0 0 0 Tryd.underlying23
  go_enter Tryd.func3, Tryd.ntmps3
  go_wp2_with fail
  refine hby.mono ?_
  intro e w' h
  obtain ⟨⟨b, rfl⟩, hw⟩ := h
  have hw := hw.symm
  subst hw
  clear hby
  cases b with
  | false =>
    go_wp2
    go_ret
    exact ⟨rfl, Below.refl _ _⟩
  | true =>
    by_cases b1 : n0 ≤ 1048576
    · go_wp2
      go_loop [5, 6] (fun nv iv => nv = .int .i64 n0 ∧ iv = .int .i64 0) (fun _ _ => 0)
      case atStart => exact ⟨by go_num, rfl⟩
      case round =>
        obtain ⟨rfl, rfl⟩ := hrel
        go_wp2_with fail
        refine (copy_src w A0 n0 c0 l HS0.out (by omega)).mono ?_
        intro e w1 h
        obtain ⟨A1, n1, rfl, hL1, hb1⟩ := h
        have hz := zz_looks w1 (.slice A1 n1 n1) l hL1 none 0 0 [] (by omega) (.inl rfl) (HA.out.below hb1) (HC.out.below hb1) (Utf8Tabs_below HT.out hb1)
        have HL1 := Hid.mk hL1
        have HB1 := Hid.mk hb1
        clear hL1 hb1
        obtain ⟨E, hE⟩ : ∃ x, x = ends l := ⟨_, rfl⟩
        rw [← hE, show (E || (decide (0 < 0) && (ef [] post || ef [] host))) = E by cases E <;> rfl] at hz
        have HE := Hid.mk hE
        clear hE
        go_wp2_with fail
        refine hz.mono ?_
        intro e w4 h
        obtain ⟨rfl, hb4⟩ := h
        have hen := ends_line w4 (.slice A1 n1 n1) l (HL1.out.below hb4)
        rw [← HE.out] at hen
        have HB4 : Hid (Below w.heap.size w w4) := Hid.mk (HB1.out.trans (hb4.mono HB1.out.size))
        clear hb4 hz
        go_wp2_with fail
        refine hen.mono ?_
        intro e w5 h
        obtain ⟨rfl, hb5⟩ := h
        have HB : Hid (Below w.heap.size w w5) := Hid.mk (HB4.out.trans (hb5.mono HB4.out.size))
        clear hb5 hen
        cases E with
        | true =>
          go_wp2
          go_ret
          exact ⟨rfl, HB.out⟩
        | false =>
          go_wp2
          go_ret
          exact ⟨rfl, HB.out⟩
    · go_wp2
      go_ret
      exact ⟨rfl, Below.refl _ _⟩
end Go.Proofs.Qxb6605199aDoor
