import Derived.Test.Qxb6605569aDoorW4
import Derived.Test.Qxb6605569aDoorRows
import Derived.Test.Qxb6605569aDoorTie
import Derived.Test.Qxb6605569aDoorCards
import Derived.ProofKit
import Derived.OpenShut
import Derived.ChangeOld
import Derived.Below
import Derived.Lay
import Derived.Stop.Joined
import Derived.SevenTiedAt
namespace Go.Proofs.Qxb6605569aDoor
open Go.ChangeShapes Go.WideShapes Go.ChangeAt Go.RowKit
set_option linter.unusedVariables false

theorem own : ownKnob Tryd.prog.godebug = none := by kernel_rfl
theorem laidOut : laidOutB Tryd.prog = true := by kernel_rfl
/-- What the row lists. -/
def laidU : List (String × DataW Unit) := Rows.fnUUIDAcceptsEveryCaseSpellingOfEveryValueRow.laid

theorem cells25 : Tryd.prog.cellsOf 25 = 16 := by kernel_rfl
/-- An array of sixteen bytes that came in. -/
theorem open16 {H : Type} {enc : TypeId × Value → H} {W : World} {base : Nat} {sp : Nat → Bool} {held : Bool} {fuel : Nat} {cs : Array Value} {x : DataW H × List MemPlace}
    (h : DataW.trod enc Tryd.prog W base sp held fuel 25 cs.toList = some x) : ∃ A : List Int, cs = (A.map (Value.int .u8)).toArray ∧ Oct A := by
  obtain ⟨xs, m, _, _, hl, hx, hall⟩ := DataW.trod_array Tryd.underlying25 h
  rw [cells25] at hl
  have hz : ∀ i, i < 16 → ∃ n : Int, cs[i]? = some (.int .u8 n) ∧ 0 ≤ n ∧ n ≤ 255 := by
    intro i hi
    have h1 := hall i hi
    obtain ⟨y, hy⟩ : ∃ y, xs[i]? = some y := ⟨xs[i]'(by omega), List.getElem?_eq_getElem (by omega)⟩
    rw [hy, cells5] at h1
    obtain ⟨n, hn, _, hw⟩ := DataW.trod_int Tryd.underlying5 h1
    refine ⟨n, ?_, ?_⟩
    · have := congrArg (·[0]?) hn
      simpa [List.getElem?_take, List.getElem?_drop] using this
    · simp only [Lit.wf, Bool.and_eq_true, decide_eq_true_eq] at hw
      exact hw
  have hcs : cs.size = 16 := by simpa using hl
  let f : Value → Int := fun v => match v with | .int _ n => n | _ => 0
  refine ⟨cs.toList.map f, ?_, ?_, ?_⟩
  · apply Array.ext
    · simp
    · intro i h1 h2
      obtain ⟨n, hn, _⟩ := hz i (by omega)
      have e : cs[i] = .int .u8 n := by rw [Array.getElem?_eq_getElem h1] at hn; exact Option.some.inj hn
      simp [e, f]
  · simp [hcs]
  · intro j
    by_cases hj : j < 16
    · obtain ⟨n, hn, h0⟩ := hz j hj
      have e : cs[j]'(by omega) = .int .u8 n := by rw [Array.getElem?_eq_getElem (by omega)] at hn; exact Option.some.inj hn
      have : (cs.toList.map f).getD j 0 = n := by simp [List.getD_eq_getElem?_getD, f, hn]
      rw [this]; exact h0
    · have : (cs.toList.map f).getD j 0 = 0 := by rw [List.getD_eq_getElem?_getD, List.getElem?_eq_none (by simp; omega)]; rfl
      rw [this]; omega

set_option maxRecDepth 100000 in
theorem uid_lifted (os : Os) (started : os.Started) (H : Type) (enc : TypeId × Value → H) :
    ReturnsInHanded {} Tryd.checked os 4 .any (fun w args => (Rows.fnUUIDAcceptsEveryCaseSpellingOfEveryValueSpec.pre enc Tryd.prog Tryd.f4 [] false w args ∧ laidMetH Tryd.prog laidU w) ∧ sizedMet enc Tryd.prog Tryd.f4 (OpenSpec.ofChange Rows.fnUUIDAcceptsEveryCaseSpellingOfEveryValueSpec) false w args)
      (Rows.fnUUIDAcceptsEveryCaseSpellingOfEveryValueSpec.post enc Tryd.prog Tryd.f4 false true false false) := by
  refine returnsInHanded_of_change_and (C := Tryd.checked) (X := fun w _ => laidMetH Tryd.prog laidU w) (fun _ _ _ hh h => h.of_heap hh) own started (by kernel_rfl) Tryd.func4
    (ChangeSpec.witness_shaped (enc := enc) (C := Tryd.checked) (os := os) (X := fun w _ => laidMetH Tryd.prog laidU w) false (World.laidAll Tryd.prog os laidU) #[.agg #[.int .u8 0, .int .u8 0, .int .u8 0, .int .u8 0, .int .u8 0, .int .u8 0, .int .u8 0, .int .u8 0, .int .u8 0, .int .u8 0, .int .u8 0, .int .u8 0, .int .u8 0, .int .u8 0, .int .u8 0, .int .u8 0], .int .u32 0] 8 (World.laidAll_os _ _ _)
      (World.shaped_of_ZipB (by kernel_rfl) (by kernel_rfl)) (by kernel_rfl) (by kernel_rfl) (by kernel_rfl)
      (by rw [MakeChecks.laidMetH_plain _ _ _ (by kernel_rfl)]; exact laidMet_laidAll _ (by kernel_rfl) (by kernel_rfl))) ?_
  intro W base args ds gs before hval0 hW _ _ _ _
  have hval : ∀ (j : Nat) t v, Tryd.f4.params[j]? = some t → args[j]? = some v → Value.okWide Tryd.prog W .any base t v := hval0
  have hW' := hW
  obtain ⟨p, q, hA0, hV, rfl, hfz, hnd⟩ := hW
  have hA : DataW.TrodAll enc Tryd.prog W 0 (fun _ => true) true Tryd.f4.params.toList args.toList ds p := hA0
  rw [Tryd.params4] at hA hval
  obtain ⟨v0, vs0, d0, ds0, p0, q0, hargs, rfl, rfl, h0, r0⟩ := trodAll_cons hA
  obtain ⟨v1, vs1, d1, ds1, p1, q1, hargs1, rfl, rfl, h1, r1⟩ := trodAll_cons r0
  obtain ⟨rfl, rfl, rfl⟩ := trodAll_nil r1
  obtain rfl : args = #[v0, v1] := by cases args; simp_all
  obtain ⟨rfl, rfl⟩ := trodVars_none hV
  obtain ⟨u, rfl, rfl, rfl, wu⟩ := open_int Tryd.underlying26 (hval 1 26 v1 rfl rfl) h1
  obtain ⟨cs, rfl⟩ : ∃ cs, v0 = .agg cs := by
    have := hval 0 25 v0 rfl rfl
    obtain ⟨cs, rfl, _⟩ : ∃ cs, v0 = .agg cs ∧ cs.size = Tryd.prog.cellsOf 25 ∧ Row.okWide Tryd.prog W .any base 25 cs := by simpa [Value.okWide, Tryd.underlying25] using this
    exact ⟨cs, rfl⟩
  have k0 := h0
  have lt0 : ∀ x ∈ p0, x.block < W.heap.size := by obtain ⟨m, hm⟩ := k0; exact DataW.trod_lt m _ _ _ hm
  obtain ⟨A, rfl, hO⟩ : ∃ A : List Int, cs = (A.map (Value.int .u8)).toArray ∧ Oct A := by
    obtain ⟨fuel, hf⟩ := h0
    exact open16 hf
  have hu : 0 ≤ u ∧ u ≤ 4294967295 := by
    simp only [Lit.wf, Bool.and_eq_true, decide_eq_true_eq] at wu
    exact wu
  clear hA0 hval0
  refine (law_any A hO u hu W).mono fun e W' ⟨he, bel⟩ => ?_
  subst he
  exact ⟨_, rfl, _, _, _, [], _, [], hW', trodAll_mk1 (shut_bool Tryd.underlying4 _), (trodAll_cons_mk (Below.trod laidOut (by kernel_rfl) (of_decide_eq_true (by kernel_rfl)) k0 bel lt0) (trodAll_cons_mk (shut_int Tryd.underlying26 wu) trodAll_mk0)), rfl, bel.frame _, fun h => by cases h⟩

theorem uid_row : Rows.FnUUIDAcceptsEveryCaseSpellingOfEveryValueSaid :=
  OpenClaim.holds_of_wide 4 Tryd.f4 rfl rfl rfl rfl rfl rfl rfl ⟨rfl, rfl, rfl, rfl, rfl⟩ rfl rfl rfl rfl rfl (by kernel_rfl) Tryd.func4 (by kernel_rfl)
    (of_decide_eq_true (by kernel_rfl)) (by unfold Func.isWrapper; first | (rw [if_pos (by decide +kernel)]; kernel_rfl) | (rw [if_neg (by decide +kernel)]; exact ⟨rfl, rfl⟩))
    (fun os started H enc _ => uid_lifted os started H enc)

theorem uid_card : Rows.FnUUIDAcceptsEveryCaseSpellingOfEveryValueCardSaid :=
  Claim7.holds_tied_plain_at .later [] [.data, .pinned, .pinned] true Rows.fnUUIDAcceptsEveryCaseSpellingOfEveryValueCard.stood.harness false
    uid_row (fun _ h => by cases h) (by kernel_rfl) (fun _ h => by cases h) fnUUIDAcceptsEveryCaseSpellingOfEveryValue_row_tie rfl ⟨rfl, rfl⟩ (by kernel_rfl) rfl
    (fun f fn hf hfn => by
      obtain rfl : f = 4 := Option.some.inj ((show Tryd.prog.funcNamed Rows.fnUUIDAcceptsEveryCaseSpellingOfEveryValueRow.func = some 4 by kernel_rfl).symm.trans hf) |>.symm
      obtain rfl : fn = Tryd.f4 := (Option.some.inj (Tryd.func4.symm.trans hfn)).symm
      exact ⟨by kernel_rfl, fun j t ht => by
        rw [Tryd.params4] at ht
        have hm : t ∈ [25, 26] := by simpa using Array.mem_of_getElem? ht
        have hall : ([25, 26].all fun u => !Tryd.prog.wantsStandIn u) = true := by kernel_rfl
        exact (show Tryd.prog.wantsStandIn t = false by simpa using List.all_eq_true.1 hall t hm)⟩)
    (by kernel_rfl)
end Go.Proofs.Qxb6605569aDoor
