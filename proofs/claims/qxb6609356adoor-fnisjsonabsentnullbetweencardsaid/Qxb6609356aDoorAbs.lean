import Derived.Test.Qxb6609356aDoorW5
import Derived.Test.Qxb6609356aDoorRows
import Derived.Test.Qxb6609356aDoorTie
import Derived.Test.Qxb6609356aDoorCards
import Derived.ProofKit
import Derived.OpenShut
import Derived.ChangeOld
import Derived.Below
import Derived.Lay
import Derived.Lib.LaidIn
import Derived.Lib.LaidU8T
import Derived.PinnedBridge
import Derived.Stop.Joined
import Derived.SevenTiedAt
namespace Go.Proofs.Qxb6609356aDoor
open Go.ChangeShapes Go.WideShapes Go.ChangeAt Go.RowKit
set_option linter.unusedVariables false

theorem own : ownKnob Tryd.prog.godebug = none := by kernel_rfl
theorem laidOut : laidOutB Tryd.prog = true := by kernel_rfl
/-- What the row lists. -/
def laidA : List (String × DataW Unit) := Rows.fnIsJSONAbsentNullBetweenRow.laid

def renU : Go.Shelf.Ren := ⟨fun n => n, fun | 119 => 32 | 138 => 55 | 139 => 56 | n => n, fun | 3 => 2 | 4 => 3 | n => n⟩
theorem typesU : U8Types Tryd.prog renU := ⟨by kernel_rfl, by kernel_rfl, by kernel_rfl, by kernel_rfl⟩
theorem extraU : U8Extra Tryd.prog renU := ⟨by kernel_rfl, by kernel_rfl, by kernel_rfl, by kernel_rfl, by kernel_rfl, by kernel_rfl, by kernel_rfl⟩
theorem extraW : WhiteExtra Tryd.prog Tryd.lays199_ren := ⟨by kernel_rfl, by kernel_rfl, by kernel_rfl, by kernel_rfl, by kernel_rfl, by kernel_rfl, by kernel_rfl, by kernel_rfl⟩
theorem acc_eq : (Rows.laid_unicode_utf8_acceptRanges : DataW Unit) = Lib.acceptData := by kernel_rfl
theorem white_eq : (Rows.laid_unicode_White_Space : DataW Unit) = Lib.whiteData := by kernel_rfl
theorem ascii_eq : (Rows.laid_bytes_asciiSpace : DataW Unit) = Lib.tabData .u8 Lib.asciiSpaceTab := by kernel_rfl
theorem asciiNamed : Tryd.prog.globalNamed "bytes.asciiSpace" = some 0 := by kernel_rfl
theorem asciiType : (Tryd.prog.globals[0]?).map (·.type) = some 32 := by kernel_rfl

theorem tabs_of_laid {W : World} (hL0 : laidMetH Tryd.prog laidA W) : Tabs W := by
  have hL := hL0
  rw [MakeChecks.laidMetH_plain _ _ _ (by kernel_rfl)] at hL
  have r0 := Lib.laidMet.reads hL (.head _)
  have r1 := Lib.laidMet.reads hL (.tail _ (.head _))
  have r2 := Lib.laidMet.reads hL (.tail _ (.tail _ (.head _)))
  have r3 := Lib.laidMet.reads hL (.tail _ (.tail _ (.tail _ (.head _))))
  rw [acc_eq] at r0
  rw [white_eq] at r1
  rw [ascii_eq] at r2
  have r3' : Lib.VarReads Tryd.prog W "unicode/utf8.first" Lib.firstData := by rw [← Pinned.utf8First_eq]; exact r3
  refine ⟨fun q hq => ?_, whiteTab_of_reads Tryd.lays199 extraW r1, utf8Tabs_of_readsT typesU extraU r3' r0⟩
  obtain ⟨g, t, cs, fuel, p, hg, hty, hvar, hd⟩ := r2
  obtain rfl := Option.some.inj (asciiNamed.symm.trans hg)
  obtain rfl := Option.some.inj (asciiType.symm.trans hty)
  have hcs := Lib.cells_of_tab (n := 256) (e := 5) (by kernel_rfl) (by kernel_rfl) (by kernel_rfl) (by kernel_rfl) hd
  have := World.var?_cell hg hvar q
  rw [this, ← Array.getElem?_toList, hcs]
  simp [Lib.asciiSpaceTab, hq]

theorem law_all (W : World) (a : Option Addr) (len cap : Nat) (zs : List Int) (hT : Tabs W)
    (h : (a = none ∧ len = 0 ∧ cap = 0) ∨ ∃ x, a = some x ∧ len ≤ cap ∧ cap ≤ maxLen ∧ zs.length = cap ∧ (∀ i, i < zs.length → W.cell? (x.add i) = some (.int .u8 (zs.getD i 0))) ∧ ∀ n ∈ zs, (Lit.int .u8 n).wf = true) :
    Calls Tryd.prog 4 #[.slice a len cap] W fun e w' => e = .returned (.bool true) ∧ Below W.heap.size W w' := by
  rcases h with ⟨rfl, rfl, rfl⟩ | ⟨x, rfl, hl, hm, hz, hc, hw⟩
  · exact law_nil W hT
  by_cases hb : 65536 < len
  · exact law_big W _ len cap (by unfold maxLen at hm; omega) hb
  refine law_some W x len cap ((zs.take len).map fun z => UInt8.ofNat z.toNat) (by simp; omega) (by omega) (fun j hj => ?_) hT
  have hj' : j < len := by simp at hj; omega
  have hz' : j < zs.length := by omega
  rw [hc j hz']
  have hwf := hw zs[j] (List.getElem_mem hz')
  have hb0 : 0 ≤ zs[j] ∧ zs[j] ≤ 255 := by
    simp only [Lit.wf, Bool.and_eq_true, decide_eq_true_eq] at hwf
    exact hwf
  have e1 : zs.getD j 0 = zs[j] := by simp [hz']
  rw [e1]
  unfold ba
  have e2 : (((zs.take len).map fun z => UInt8.ofNat z.toNat).getD j 0).toNat = zs[j].toNat := by
    simp [List.getD_eq_getElem?_getD, hj', hz']
    omega
  rw [e2, Int.toNat_of_nonneg hb0.1]

set_option maxRecDepth 100000 in
theorem abs_lifted (os : Os) (started : os.Started) (H : Type) (enc : TypeId × Value → H) :
    ReturnsInHanded {} Tryd.checked os 4 .any (fun w args => (Rows.fnIsJSONAbsentNullBetweenSpec.pre enc Tryd.prog Tryd.f4 [] false w args ∧ laidMetH Tryd.prog laidA w) ∧ sizedMet enc Tryd.prog Tryd.f4 (OpenSpec.ofChange Rows.fnIsJSONAbsentNullBetweenSpec) false w args)
      (Rows.fnIsJSONAbsentNullBetweenSpec.post enc Tryd.prog Tryd.f4 false true false false) := by
  refine returnsInHanded_of_change_and (C := Tryd.checked) (X := fun w _ => laidMetH Tryd.prog laidA w) (fun _ _ _ hh h => h.of_heap hh) own started (by kernel_rfl) Tryd.func4
    (ChangeSpec.witness_shaped (enc := enc) (C := Tryd.checked) (os := os) (X := fun w _ => laidMetH Tryd.prog laidA w) false (World.laidAll Tryd.prog os laidA) #[.slice none 0 0] 8 (World.laidAll_os _ _ _)
      (World.shaped_of_ZipB (by kernel_rfl) (by kernel_rfl)) (by kernel_rfl) (by kernel_rfl) (by kernel_rfl)
      (by rw [MakeChecks.laidMetH_plain _ _ _ (by kernel_rfl)]; exact laidMet_laidAll _ (by kernel_rfl) (by kernel_rfl))) ?_
  intro W base args ds gs before hval0 hW _ _ hL _
  have hval : ∀ (j : Nat) t v, Tryd.f4.params[j]? = some t → args[j]? = some v → Value.okWide Tryd.prog W .any base t v := hval0
  have hW' := hW
  obtain ⟨p, q, hA0, hV, rfl, hfz, hnd⟩ := hW
  have hA : DataW.TrodAll enc Tryd.prog W 0 (fun _ => true) true Tryd.f4.params.toList args.toList ds p := hA0
  rw [Tryd.params4] at hA hval
  obtain ⟨v0, vs0, d0, ds0, p0, q0, hargs, rfl, rfl, h0, r0⟩ := trodAll_cons hA
  obtain ⟨rfl, rfl, rfl⟩ := trodAll_nil r0
  obtain rfl : args = #[v0] := by cases args; simp_all
  obtain ⟨rfl, rfl⟩ := trodVars_none hV
  obtain ⟨a0, len0, cap0, rfl⟩ := okWide_slice Tryd.underlying22 (hval 0 22 v0 rfl rfl)
  have k0 := h0
  have lt0 : ∀ x ∈ p0, x.block < W.heap.size := by obtain ⟨m, hm⟩ := k0; exact DataW.trod_lt m _ _ _ hm
  obtain ⟨z0, w0⟩ : ∃ zs : List Int, (a0 = none ∧ len0 = 0 ∧ cap0 = 0) ∨ ∃ x, a0 = some x ∧ len0 ≤ cap0 ∧ cap0 ≤ maxLen ∧ zs.length = cap0 ∧ (∀ i, i < zs.length → W.cell? (x.add i) = some (.int .u8 (zs.getD i 0))) ∧ ∀ n ∈ zs, (Lit.int .u8 n).wf = true := by
    obtain ⟨fuel, hf⟩ := h0
    rcases open_ints Tryd.underlying22 Tryd.underlying5 (by kernel_rfl) hf with ⟨hcs, _⟩ | ⟨x, l, c, zs, hcs, _, hl, hm, hz, _, hcell, hwz⟩
    · simp [Value.cells] at hcs
      obtain ⟨rfl, rfl, rfl⟩ := hcs
      exact ⟨[], .inl ⟨rfl, rfl, rfl⟩⟩
    · simp [Value.cells] at hcs
      obtain ⟨rfl, rfl, rfl⟩ := hcs
      exact ⟨zs, .inr ⟨_, rfl, hl, hm, by simpa using hz, hcell, hwz⟩⟩
  clear hA0 hval0
  refine (law_all W a0 len0 cap0 z0 (tabs_of_laid hL) w0).mono fun e W' ⟨he, bel⟩ => ?_
  subst he
  exact ⟨_, rfl, _, _, _, [], _, [], hW', trodAll_mk1 (shut_bool Tryd.underlying4 _), (trodAll_cons_mk (Below.trod laidOut (by kernel_rfl) (of_decide_eq_true (by kernel_rfl)) k0 bel lt0) trodAll_mk0), rfl, bel.frame _, fun h => by cases h⟩

theorem abs_row : Rows.FnIsJSONAbsentNullBetweenSaid :=
  OpenClaim.holds_of_wide 4 Tryd.f4 rfl rfl rfl rfl rfl rfl rfl ⟨rfl, rfl, rfl, rfl, rfl⟩ rfl rfl rfl rfl rfl (by kernel_rfl) Tryd.func4 (by kernel_rfl)
    (of_decide_eq_true (by kernel_rfl)) (by unfold Func.isWrapper; first | (rw [if_pos (by decide +kernel)]; kernel_rfl) | (rw [if_neg (by decide +kernel)]; exact ⟨rfl, rfl⟩))
    (fun os started H enc _ => abs_lifted os started H enc)

theorem abs_card : Rows.FnIsJSONAbsentNullBetweenCardSaid :=
  Claim7.holds_tied_plain_at .later [] [.data, .listed, .data, .pinned] true Rows.fnIsJSONAbsentNullBetweenCard.stood.harness false
    abs_row (fun _ h => by cases h) (by kernel_rfl) (fun _ h => by cases h) fnIsJSONAbsentNullBetween_row_tie rfl ⟨rfl, rfl⟩ (by kernel_rfl) rfl
    (fun f fn hf hfn => by
      obtain rfl : f = 4 := Option.some.inj ((show Tryd.prog.funcNamed Rows.fnIsJSONAbsentNullBetweenRow.func = some 4 by kernel_rfl).symm.trans hf) |>.symm
      obtain rfl : fn = Tryd.f4 := (Option.some.inj (Tryd.func4.symm.trans hfn)).symm
      exact ⟨by kernel_rfl, fun j t ht => by
        rw [Tryd.params4] at ht
        have hm : t ∈ [22] := by simpa using Array.mem_of_getElem? ht
        have hall : ([22].all fun u => !Tryd.prog.wantsStandIn u) = true := by kernel_rfl
        exact (show Tryd.prog.wantsStandIn t = false by simpa using List.all_eq_true.1 hall t hm)⟩)
    (by kernel_rfl)
end Go.Proofs.Qxb6609356aDoor
