import Derived.Test.Qxb6605199aDoorW10
import Derived.Test.Qxb6605199aDoorT1
import Derived.Test.Qxb6605199aDoorRows
import Derived.Test.Qxb6605199aDoorTie
import Derived.Test.Qxb6605199aDoorCards
import Derived.ProofKit
import Derived.OpenShut
import Derived.ChangeOld
import Derived.Below
import Derived.Lay
import Derived.Lib.LaidIn
import Derived.Deep.Matrix
import Derived.Stop.Joined
import Derived.SevenTiedAt
namespace Go.Proofs.Qxb6605199aDoor
open Go.ChangeShapes Go.WideShapes Go.ChangeAt Go.RowKit Go.Deep
set_option linter.unusedVariables false

theorem own : ownKnob Tryd.prog.godebug = none := by kernel_rfl
theorem laidOut : laidOutB Tryd.prog = true := by kernel_rfl

/-- The bytes that a row of numbers holds. -/
def bytesAt (zs : List Int) (n : Nat) : List UInt8 := (zs.take n).map fun z => UInt8.ofNat z.toNat
theorem ba_bytesAt (zs : List Int) (n j : Nat) (hn : n ≤ zs.length) (hj : j < n) (hw : ∀ z ∈ zs, (Lit.int .u8 z).wf = true) : ba (bytesAt zs n) j = zs.getD j 0 := by
  have hz' : j < zs.length := by omega
  have hwf := hw zs[j] (List.getElem_mem hz')
  have hb0 : 0 ≤ zs[j] ∧ zs[j] ≤ 255 := by
    simp only [Lit.wf, Bool.and_eq_true, decide_eq_true_eq] at hwf
    exact hwf
  have e1 : zs.getD j 0 = zs[j] := by simp [hz']
  rw [e1]
  unfold ba bytesAt
  have e2 : (((zs.take n).map fun z => UInt8.ofNat z.toNat).getD j 0).toNat = zs[j].toNat := by
    simp [List.getD_eq_getElem?_getD, hj, hz']
    omega
  rw [e2, Int.toNat_of_nonneg hb0.1]
theorem src_of {W : World} {A : Option Addr} {n c : Nat} {zs : List Int} (hn : n ≤ c) (hz : zs.length = c) (hw : ∀ z ∈ zs, (Lit.int .u8 z).wf = true) (h0 : A = none → c = 0)
    (hc : ∀ x, A = some x → ∀ j, j < c → W.cell? (x.add j) = some (.int .u8 (zs.getD j 0))) : Src W A n c (bytesAt zs n) :=
  ⟨by simp [bytesAt]; omega, fun h => ⟨by have := h0 h; omega, h0 h⟩, fun x hx j hj => by rw [hc x hx j (by omega), ba_bytesAt zs n j (by omega) hj hw]⟩

set_option maxRecDepth 100000 in
theorem htp_lifted (os : Os) (started : os.Started) (H : Type) (enc : TypeId × Value → H) :
    ReturnsInHanded {} Tryd.checked os 3 .any (fun w args => (Rows.fnLooksLikeHTTPExactSpec.pre enc Tryd.prog Tryd.f3 [] false w args ∧ laidMetH Tryd.prog laidA w) ∧ sizedMet enc Tryd.prog Tryd.f3 (OpenSpec.ofChange Rows.fnLooksLikeHTTPExactSpec) false w args)
      (Rows.fnLooksLikeHTTPExactSpec.post enc Tryd.prog Tryd.f3 false true false false) := by
  refine returnsInHanded_of_change_and (C := Tryd.checked) (X := fun w _ => laidMetH Tryd.prog laidA w) (fun _ _ _ hh h => h.of_heap hh) own started (by kernel_rfl) Tryd.func3
    (ChangeSpec.witness_shaped (enc := enc) (C := Tryd.checked) (os := os) (X := fun w _ => laidMetH Tryd.prog laidA w) false (World.laidAll Tryd.prog os laidA) #[.slice none 0 0, .slice none 0 0] 8 (World.laidAll_os _ _ _)
      (World.shaped_of_ZipB (by kernel_rfl) (by kernel_rfl)) (by kernel_rfl) (by kernel_rfl) (by kernel_rfl)
      (by rw [MakeChecks.laidMetH_plain _ _ _ (by kernel_rfl)]; exact laidMet_laidAll _ (by kernel_rfl) (by kernel_rfl))) ?_
  intro W base args ds gs before hval0 hW _ _ hL _
  have hval : ∀ (j : Nat) t v, Tryd.f3.params[j]? = some t → args[j]? = some v → Value.okWide Tryd.prog W .any base t v := hval0
  have hW' := hW
  obtain ⟨p, q, hA0, hV, rfl, hfz, hnd⟩ := hW
  have hA : DataW.TrodAll enc Tryd.prog W 0 (fun _ => true) true Tryd.f3.params.toList args.toList ds p := hA0
  rw [Tryd.params3] at hA hval
  obtain ⟨v0, vs0, d0, ds0, p0, q0, hargs, rfl, rfl, h0, r0⟩ := trodAll_cons hA
  obtain ⟨v1, vs1, d1, ds1, p1, q1, hargs1, rfl, rfl, h1, r1⟩ := trodAll_cons r0
  obtain ⟨rfl, rfl, rfl⟩ := trodAll_nil r1
  subst hargs1
  obtain rfl : args = #[v0, v1] := by cases args; simp_all
  obtain ⟨rfl, rfl⟩ := trodVars_none hV
  obtain ⟨a0, len0, cap0, rfl⟩ := okWide_slice Tryd.underlying22 (hval 0 22 v0 rfl rfl)
  obtain ⟨a1, len1, cap1, rfl⟩ := okWide_slice Tryd.underlying23 (hval 1 23 v1 rfl rfl)
  have k0 := h0
  have k1 := h1
  have lt0 : ∀ x ∈ p0, x.block < W.heap.size := by obtain ⟨m, hm⟩ := k0; exact DataW.trod_lt m _ _ _ hm
  have lt1 : ∀ x ∈ p1, x.block < W.heap.size := by obtain ⟨m, hm⟩ := k1; exact DataW.trod_lt m _ _ _ hm
  obtain ⟨l, hl0, hS0⟩ : ∃ l, len0 ≤ maxLen ∧ Src W a0 len0 cap0 l := by
    obtain ⟨fuel, hf⟩ := h0
    rcases open_ints Tryd.underlying22 Tryd.underlying5 (by kernel_rfl) hf with ⟨hcs, _⟩ | ⟨x, l, c, zs, hcs, _, hl, hm, hz, _, hcell, hwz⟩
    · simp [Value.cells] at hcs
      obtain ⟨rfl, rfl, rfl⟩ := hcs
      exact ⟨[], Nat.zero_le _, rfl, fun _ => ⟨rfl, rfl⟩, fun x hx => by cases hx⟩
    · simp [Value.cells] at hcs
      obtain ⟨rfl, rfl, rfl⟩ := hcs
      have hz' : zs.length = cap0 := by simpa using hz
      exact ⟨_, Nat.le_trans hl hm, src_of hl hz' hwz (fun h => by cases h) (fun y hy j hj => by cases hy; exact hcell j (by omega))⟩
  obtain ⟨hAF, hCO, hTT⟩ := tabs_of_laid hL
  have hlaw : Calls Tryd.prog 3 #[.slice a0 len0 cap0, .slice a1 len1 cap1] W fun e w' => e = .returned (.bool true) ∧ Below W.heap.size W w' := by
    obtain ⟨fuel, hf⟩ := h1
    rcases open_int_rows Tryd.underlying23 Tryd.underlying22 Tryd.underlying5 (by kernel_rfl) (by kernel_rfl) hf with ⟨hcs, _⟩ | ⟨a, len, cap, A, L, C, Z, hcs, _, hl, hm, _, hrow⟩
    · simp [Value.cells] at hcs
      obtain ⟨rfl, rfl, rfl⟩ := hcs
      exact law_nil W a0 len0 cap0 l (by unfold maxLen at hl0; omega) hS0 hAF hCO hTT
    · simp [Value.cells] at hcs
      obtain ⟨rfl, rfl, rfl⟩ := hcs
      refine law_some W a0 len0 cap0 l (by unfold maxLen at hl0; omega) hS0 a len1 cap1 A L C (fun r => bytesAt (Z r) (L r)) (by unfold maxLen at hm; omega) (fun r hr => ?_) (fun r hr => ?_) hAF hCO hTT
      · obtain ⟨c1, c2, c3, _⟩ := hrow r (by omega)
        exact ⟨c1, by unfold maxLen at c3; omega⟩
      · obtain ⟨_, c2, _, c4, c5, c6, c7⟩ := hrow r (by omega)
        exact src_of c2 c4 c5 c6 (fun x hx j hj => (c7 x hx).2 j hj)
  clear hA0 hval0
  refine hlaw.mono fun e W' ⟨he, bel⟩ => ?_
  subst he
  exact ⟨_, rfl, _, _, _, [], _, [], hW', trodAll_mk1 (shut_bool Tryd.underlying4 _),
    (trodAll_cons_mk (Below.trod laidOut (by kernel_rfl) (of_decide_eq_true (by kernel_rfl)) k0 bel lt0) (trodAll_cons_mk (Below.trod laidOut (by kernel_rfl) (of_decide_eq_true (by kernel_rfl)) k1 bel lt1) trodAll_mk0)), rfl, bel.frame _, fun h => by cases h⟩

theorem htp_row : Rows.FnLooksLikeHTTPExactSaid :=
  OpenClaim.holds_of_wide 3 Tryd.f3 rfl rfl rfl rfl rfl rfl rfl ⟨rfl, rfl, rfl, rfl, rfl⟩ rfl rfl rfl rfl rfl (by kernel_rfl) Tryd.func3 (by kernel_rfl)
    (of_decide_eq_true (by kernel_rfl)) (by unfold Func.isWrapper; first | (rw [if_pos (by decide +kernel)]; kernel_rfl) | (rw [if_neg (by decide +kernel)]; exact ⟨rfl, rfl⟩))
    (fun os started H enc _ => htp_lifted os started H enc)

theorem htp_card : Rows.FnLooksLikeHTTPExactCardSaid :=
  Claim7.holds_tied_plain_at .later [] [.data, .data, .data, .pinned, .pinned] true Rows.fnLooksLikeHTTPExactCard.stood.harness false
    htp_row (fun _ h => by cases h) (by kernel_rfl) (fun _ h => by cases h) fnLooksLikeHTTPExact_row_tie rfl ⟨rfl, rfl⟩ (by kernel_rfl) rfl
    (fun f fn hf hfn => by
      obtain rfl : f = 3 := Option.some.inj ((show Tryd.prog.funcNamed Rows.fnLooksLikeHTTPExactRow.func = some 3 by kernel_rfl).symm.trans hf) |>.symm
      obtain rfl : fn = Tryd.f3 := (Option.some.inj (Tryd.func3.symm.trans hfn)).symm
      exact ⟨by kernel_rfl, fun j t ht => by
        rw [Tryd.params3] at ht
        have hm : t ∈ [22, 23] := by simpa using Array.mem_of_getElem? ht
        have hall : ([22, 23].all fun u => !Tryd.prog.wantsStandIn u) = true := by kernel_rfl
        exact (show Tryd.prog.wantsStandIn t = false by simpa using List.all_eq_true.1 hall t hm)⟩)
    (by kernel_rfl)
end Go.Proofs.Qxb6605199aDoor
