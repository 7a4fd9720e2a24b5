import Derived.Test.Qxb6003914aDoorS3
import Derived.Test.Qxb6003914aDoorRows
import Derived.Test.Qxb6003914aDoorTie
import Derived.Test.Qxb6003914aDoorCards
import Derived.ProofKit
import Derived.Lay
import Derived.Stop.Joined
import Derived.SevenTiedAt
namespace Go.Proofs.Qxb6003914aDoor
open Go.ChangeShapes Go.WideShapes Go.ChangeAt Go.RowKit
open Go.ChangeMaps (open_string shut_string)

theorem ownS : ownKnob Tryd.prog.godebug = none := by kernel_rfl
/-- What the row lists. -/
def laidS : List (String × DataW Unit) := Rows.fnParseDecimalSpellingsAgreeRow.laid

theorem mk_self (s : ByteArray) : (⟨s.data.toList.toArray⟩ : ByteArray) = s := by
  apply ByteArray.ext; simp

/-- The law, at every input. -/
theorem sp_any (ng : Bool) (W F : ByteArray) (x l r : Int) (w : World) (hW : W.size ≤ maxLen) (hF : F.size ≤ maxLen) :
    Calls Tryd.prog 3 #[.bool ng, .string W, .string F, .int .i64 x, .int .i64 l, .int .i64 r] w fun e w' => e = .returned (.bool true) ∧ Below w.heap.size w w' := by
  by_cases h1 : W.size + F.size ≤ 1048576
  · by_cases h2 : 0 ≤ l ∧ l ≤ 64 ∧ 0 ≤ r ∧ r ≤ 64 ∧ -1048576 ≤ x ∧ x ≤ 1048576
    · obtain ⟨g1, g2, g3, g4, g5, g6⟩ := h2
      by_cases h3 : W.toList.isEmpty = false ∧ allDg W.data.toList = true ∧ allDg F.data.toList = true
      · obtain ⟨k1, k2, k3⟩ := h3
        obtain ⟨l, rfl⟩ := Int.eq_ofNat_of_zero_le g1
        obtain ⟨r, rfl⟩ := Int.eq_ofNat_of_zero_le g3
        rw [ByteArray.toList_eq] at k1
        have hl : W.data.toList.length + F.data.toList.length ≤ 1048576 := by simpa using h1
        rw [← mk_self W]
        generalize W.data.toList = A at *
        cases kf : F.data.toList.isEmpty
        · rw [← mk_self F]
          generalize F.data.toList = B at *
          cases ng
          · exact sp_ff A B x l r w hl (by omega) (by omega) g5 g6 k1 k2 k3 kf
          · exact sp_tf A B x l r w hl (by omega) (by omega) g5 g6 k1 k2 k3 kf
        · have e := List.isEmpty_iff.1 kf
          rw [← mk_self F, e]
          rw [e] at hl
          cases ng
          · exact sp_ft A x l r w (by simpa using hl) (by omega) (by omega) g5 g6 k1 k2
          · exact sp_tt A x l r w (by simpa using hl) (by omega) (by omega) g5 g6 k1 k2
      · exact sp_out3 ng W F x l r w h1 g1 g2 g3 g4 g5 g6 h3
    · exact sp_out2 ng W F x l r w h1 h2
  · exact sp_out1 ng W F x l r w hW hF h1

set_option maxRecDepth 100000 in
theorem spl_lifted (os : Os) (started : os.Started) (H : Type) (enc : TypeId × Value → H) :
    ReturnsInHanded {} Tryd.checked os 3 .any (fun w args => (Rows.fnParseDecimalSpellingsAgreeSpec.pre enc Tryd.prog Tryd.f3 [] false w args ∧ laidMetH Tryd.prog laidS w) ∧ sizedMet enc Tryd.prog Tryd.f3 (OpenSpec.ofChange Rows.fnParseDecimalSpellingsAgreeSpec) false w args)
      (Rows.fnParseDecimalSpellingsAgreeSpec.post enc Tryd.prog Tryd.f3 false true false false) := by
  refine returnsInHanded_of_change_and (C := Tryd.checked) (X := fun w _ => laidMetH Tryd.prog laidS w) (fun _ _ _ hh h => h.of_heap hh) ownS started (by kernel_rfl) Tryd.func3
    (ChangeSpec.witness_shaped (enc := enc) (C := Tryd.checked) (os := os) (X := fun w _ => laidMetH Tryd.prog laidS w) false (World.laidAll Tryd.prog os laidS) #[.bool false, .string ⟨#[]⟩, .string ⟨#[]⟩, .int .i64 0, .int .i64 0, .int .i64 0] 8 (World.laidAll_os _ _ _)
      (World.shaped_of_ZipB (by kernel_rfl) (by kernel_rfl)) (by kernel_rfl) (by kernel_rfl) (by kernel_rfl)
      (by rw [MakeChecks.laidMetH_plain _ _ _ (by kernel_rfl)]; exact laidMet_laidAll _ (by kernel_rfl) (by kernel_rfl))) ?_
  intro W base args ds gs before hval0 hW _ _ _ _
  have hval : ∀ (j : Nat) t v, Tryd.f3.params[j]? = some t → args[j]? = some v → Value.okWide Tryd.prog W .any base t v := hval0
  have hW' := hW
  obtain ⟨p, q, hA0, hV, rfl, _, _⟩ := hW
  have hA : DataW.TrodAll enc Tryd.prog W 0 (fun _ => true) true Tryd.f3.params.toList args.toList ds p := hA0
  rw [Tryd.params3] at hA hval
  obtain ⟨rfl, rfl⟩ := trodVars_none hV
  obtain ⟨v0, vs0, d0, ds0, p0, q0, hargs, rfl, rfl, h0, r0⟩ := trodAll_cons hA
  obtain ⟨v1, vs1, d1, ds1, p1, q1, rfl, rfl, rfl, h1, r1⟩ := trodAll_cons r0
  obtain ⟨v2, vs2, d2, ds2, p2, q2, rfl, rfl, rfl, h2, r2⟩ := trodAll_cons r1
  obtain ⟨v3, vs3, d3, ds3, p3, q3, rfl, rfl, rfl, h3, r3⟩ := trodAll_cons r2
  obtain ⟨v4, vs4, d4, ds4, p4, q4, rfl, rfl, rfl, h4, r4⟩ := trodAll_cons r3
  obtain ⟨v5, vs5, d5, ds5, p5, q5, rfl, rfl, rfl, h5, r5⟩ := trodAll_cons r4
  obtain ⟨rfl, rfl, rfl⟩ := trodAll_nil r5
  obtain rfl : args = #[v0, v1, v2, v3, v4, v5] := Array.toList_inj.1 (by rw [hargs])
  obtain ⟨ng, rfl, rfl, rfl⟩ := open_bool Tryd.underlying4 (hval 0 4 v0 rfl rfl) h0
  obtain ⟨s1, rfl, rfl, rfl, hs1⟩ := open_string Tryd.underlying9 (hval 1 9 v1 rfl rfl) h1
  obtain ⟨s2, rfl, rfl, rfl, hs2⟩ := open_string Tryd.underlying9 (hval 2 9 v2 rfl rfl) h2
  obtain ⟨x, rfl, rfl, rfl, wx⟩ := open_int Tryd.underlying3 (hval 3 3 v3 rfl rfl) h3
  obtain ⟨y, rfl, rfl, rfl, wy⟩ := open_int Tryd.underlying3 (hval 4 3 v4 rfl rfl) h4
  obtain ⟨z, rfl, rfl, rfl, wz⟩ := open_int Tryd.underlying3 (hval 5 3 v5 rfl rfl) h5
  simp only [List.append_nil] at hW'
  refine (sp_any ng s1 s2 x y z W hs1 hs2).mono fun e W' ⟨he, hb⟩ => ?_
  subst he
  exact ⟨_, rfl, _, _, _, [], [], [], hW', trodAll_mk1 (shut_bool Tryd.underlying4 _), trodAll_cons_mk (shut_bool Tryd.underlying4 _) (trodAll_cons_mk (shut_string Tryd.underlying9 hs1) (trodAll_cons_mk (shut_string Tryd.underlying9 hs2) (trodAll_cons_mk (shut_int Tryd.underlying3 wx) (trodAll_cons_mk (shut_int Tryd.underlying3 wy) (trodAll_cons_mk (shut_int Tryd.underlying3 wz) trodAll_mk0))))), rfl, hb.frame _, fun h => by cases h⟩

theorem spl_row : Rows.FnParseDecimalSpellingsAgreeSaid :=
  OpenClaim.holds_of_wide 3 Tryd.f3 rfl rfl rfl rfl rfl rfl rfl ⟨rfl, rfl, rfl, rfl, rfl⟩ rfl rfl rfl rfl rfl (by kernel_rfl) Tryd.func3 (by kernel_rfl)
    (of_decide_eq_true (by kernel_rfl)) (by unfold Func.isWrapper; first | (rw [if_pos (by decide +kernel)]; kernel_rfl) | (rw [if_neg (by decide +kernel)]; exact ⟨rfl, rfl⟩))
    (fun os started H enc _ => spl_lifted os started H enc)

theorem spl_card : Rows.FnParseDecimalSpellingsAgreeCardSaid :=
  Claim7.holds_tied_plain_at .later [] [.data, .pinned] true Rows.fnParseDecimalSpellingsAgreeCard.stood.harness false
    spl_row (fun _ h => by cases h) (by kernel_rfl) (fun _ h => by cases h) fnParseDecimalSpellingsAgree_row_tie rfl ⟨rfl, rfl⟩ (by kernel_rfl) rfl
    (fun f fn hf hfn => by
      obtain rfl : f = 3 := Option.some.inj ((show Tryd.prog.funcNamed Rows.fnParseDecimalSpellingsAgreeRow.func = some 3 by kernel_rfl).symm.trans hf) |>.symm
      obtain rfl : fn = Tryd.f3 := (Option.some.inj (Tryd.func3.symm.trans hfn)).symm
      exact ⟨by kernel_rfl, fun j t ht => by
        rw [Tryd.params3] at ht
        have hm : t ∈ [4, 9, 9, 3, 3, 3] := by simpa using Array.mem_of_getElem? ht
        have hall : ([4, 9, 9, 3, 3, 3].all fun u => !Tryd.prog.wantsStandIn u) = true := by kernel_rfl
        exact (show Tryd.prog.wantsStandIn t = false by simpa using List.all_eq_true.1 hall t hm)⟩)
    (by kernel_rfl)
end Go.Proofs.Qxb6003914aDoor
