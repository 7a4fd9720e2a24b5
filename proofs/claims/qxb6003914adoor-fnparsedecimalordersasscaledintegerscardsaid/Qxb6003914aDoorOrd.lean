import Derived.Test.Qxb6003914aDoorW9
import Derived.Test.Qxb6003914aDoorRows
import Derived.Test.Qxb6003914aDoorTie
import Derived.Test.Qxb6003914aDoorCards
import Derived.ProofKit
import Derived.Lay
import Derived.Stop.Joined
import Derived.SevenTiedAt
namespace Go.Proofs.Qxb6003914aDoor
open Go.ChangeShapes Go.WideShapes Go.ChangeAt Go.RowKit

theorem own : ownKnob Tryd.prog.godebug = none := by kernel_rfl
/-- What the row lists. -/
def laidO : List (String × DataW Unit) := Rows.fnParseDecimalOrdersAsScaledIntegersRow.laid

set_option maxRecDepth 100000 in
theorem ord_lifted (os : Os) (started : os.Started) (H : Type) (enc : TypeId × Value → H) :
    ReturnsInHanded {} Tryd.checked os 4 .any (fun w args => (Rows.fnParseDecimalOrdersAsScaledIntegersSpec.pre enc Tryd.prog Tryd.f4 [] false w args ∧ laidMetH Tryd.prog laidO w) ∧ sizedMet enc Tryd.prog Tryd.f4 (OpenSpec.ofChange Rows.fnParseDecimalOrdersAsScaledIntegersSpec) false w args)
      (Rows.fnParseDecimalOrdersAsScaledIntegersSpec.post enc Tryd.prog Tryd.f4 false true false false) := by
  refine returnsInHanded_of_change_and (C := Tryd.checked) (X := fun w _ => laidMetH Tryd.prog laidO w) (fun _ _ _ hh h => h.of_heap hh) own started (by kernel_rfl) Tryd.func4
    (ChangeSpec.witness_shaped (enc := enc) (C := Tryd.checked) (os := os) (X := fun w _ => laidMetH Tryd.prog laidO w) false (World.laidAll Tryd.prog os laidO) #[.int .i64 0, .int .i64 0, .int .i64 0, .int .i64 0] 8 (World.laidAll_os _ _ _)
      (World.shaped_of_ZipB (by kernel_rfl) (by kernel_rfl)) (by kernel_rfl) (by kernel_rfl) (by kernel_rfl)
      (by rw [MakeChecks.laidMetH_plain _ _ _ (by kernel_rfl)]; exact laidMet_laidAll _ (by kernel_rfl) (by kernel_rfl))) ?_
  intro W base args ds gs before hval0 hW _ _ _ _
  have hval : ∀ (j : Nat) t v, Tryd.f4.params[j]? = some t → args[j]? = some v → Value.okWide Tryd.prog W .any base t v := hval0
  have hW' := hW
  obtain ⟨p, q, hA0, hV, rfl, _, _⟩ := hW
  have hA : DataW.TrodAll enc Tryd.prog W 0 (fun _ => true) true Tryd.f4.params.toList args.toList ds p := hA0
  rw [Tryd.params4] at hA hval
  obtain ⟨v0, v1, v2, v3, d0, d1, d2, d3, p0, p1, p2, p3, rfl, rfl, rfl, h0, h1, h2, h3⟩ := trodAll_four hA
  obtain ⟨rfl, rfl⟩ := trodVars_none hV
  obtain ⟨a, rfl, rfl, rfl, wa⟩ := open_int Tryd.underlying2 (hval 0 2 v0 rfl rfl) h0
  obtain ⟨b, rfl, rfl, rfl, wb⟩ := open_int Tryd.underlying2 (hval 1 2 v1 rfl rfl) h1
  obtain ⟨x, rfl, rfl, rfl, wx⟩ := open_int Tryd.underlying3 (hval 2 3 v2 rfl rfl) h2
  obtain ⟨y, rfl, rfl, rfl, wy⟩ := open_int Tryd.underlying3 (hval 3 3 v3 rfl rfl) h3
  simp only [List.append_nil] at hW'
  have law : Calls Tryd.prog 4 #[.int .i64 a, .int .i64 b, .int .i64 x, .int .i64 y] W fun e w' => e = .returned (.bool true) ∧ Below W.heap.size W w' := by
    by_cases h : -1000000 ≤ a ∧ a ≤ 1000000 ∧ -1000000 ≤ b ∧ b ≤ 1000000 ∧ -6 ≤ x ∧ x ≤ 6 ∧ -6 ≤ y ∧ y ≤ 6
    · obtain ⟨g1, g2, g3, g4, g5, g6, g7, g8⟩ := h
      exact ord_in a b x y W g1 g2 g3 g4 g5 g6 g7 g8
    · exact ord_out a b x y W h
  refine law.mono fun e W' ⟨he, hb⟩ => ?_
  subst he
  exact ⟨_, rfl, _, _, _, [], [], [], hW', trodAll_mk1 (shut_bool Tryd.underlying4 _), trodAll_mk4 (shut_int Tryd.underlying2 wa) (shut_int Tryd.underlying2 wb) (shut_int Tryd.underlying3 wx) (shut_int Tryd.underlying3 wy), rfl, hb.frame _, fun h => by cases h⟩

theorem ord_row : Rows.FnParseDecimalOrdersAsScaledIntegersSaid :=
  OpenClaim.holds_of_wide 4 Tryd.f4 rfl rfl rfl rfl rfl rfl rfl ⟨rfl, rfl, rfl, rfl, rfl⟩ rfl rfl rfl rfl rfl (by kernel_rfl) Tryd.func4 (by kernel_rfl)
    (of_decide_eq_true (by kernel_rfl)) (by unfold Func.isWrapper; first | (rw [if_pos (by decide +kernel)]; kernel_rfl) | (rw [if_neg (by decide +kernel)]; exact ⟨rfl, rfl⟩))
    (fun os started H enc _ => ord_lifted os started H enc)

theorem ord_card : Rows.FnParseDecimalOrdersAsScaledIntegersCardSaid :=
  Claim7.holds_tied_plain_at .later [] [.data, .pinned] true Rows.fnParseDecimalOrdersAsScaledIntegersCard.stood.harness false
    ord_row (fun _ h => by cases h) (by kernel_rfl) (fun _ h => by cases h) fnParseDecimalOrdersAsScaledIntegers_row_tie rfl ⟨rfl, rfl⟩ (by kernel_rfl) rfl
    (fun f fn hf hfn => by
      obtain rfl : f = 4 := Option.some.inj ((show Tryd.prog.funcNamed Rows.fnParseDecimalOrdersAsScaledIntegersRow.func = some 4 by kernel_rfl).symm.trans hf) |>.symm
      obtain rfl : fn = Tryd.f4 := (Option.some.inj (Tryd.func4.symm.trans hfn)).symm
      exact ⟨by kernel_rfl, fun j t ht => by
        rw [Tryd.params4] at ht
        have hm : t ∈ [2, 2, 3, 3] := by simpa using Array.mem_of_getElem? ht
        have hall : ([2, 2, 3, 3].all fun u => !Tryd.prog.wantsStandIn u) = true := by kernel_rfl
        exact (show Tryd.prog.wantsStandIn t = false by simpa using List.all_eq_true.1 hall t hm)⟩)
    (by kernel_rfl)
end Go.Proofs.Qxb6003914aDoor
