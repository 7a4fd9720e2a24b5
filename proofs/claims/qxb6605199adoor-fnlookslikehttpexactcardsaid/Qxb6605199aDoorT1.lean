import Derived.Test.Qxb6605199aDoorW1
import Derived.Test.Qxb6605199aDoorRows
import Derived.Lib.LaidIn
import Derived.Lib.LaidU8T
import Derived.PinnedBridge
import Derived.MakeChecks
namespace Go.Proofs.Qxb6605199aDoor
open Go.ChangeShapes Go.WideShapes Go.RowKit Go.Lib

/-- What the row lists. -/
def laidA : List (String × DataW Unit) := Rows.fnLooksLikeHTTPExactRow.laid

def renU : Go.Shelf.Ren := ⟨fun n => n, fun | 119 => 42 | 138 => 44 | 139 => 45 | n => n, fun | 3 => 3 | 4 => 4 | n => n⟩
theorem typesU : U8Types Tryd.prog renU := ⟨by kernel_rfl, by kernel_rfl, by kernel_rfl, by kernel_rfl⟩
theorem extraU : U8Extra Tryd.prog renU := ⟨by kernel_rfl, by kernel_rfl, by kernel_rfl, by kernel_rfl, by kernel_rfl, by kernel_rfl, by kernel_rfl⟩
theorem acc_eq : (Rows.laid_unicode_utf8_acceptRanges : DataW Unit) = Lib.acceptData := by kernel_rfl
/-- unicode.asciiFold as a table. -/
def foldTab : List Int := (List.range 128).map fun c => (afold c : Int)
theorem fold_eq : (Rows.laid_unicode_asciiFold : DataW Unit) = Lib.tabData .u16 foldTab := by kernel_rfl
/-- The entries of unicode.caseOrbit. -/
def orbOf : DataW Unit → List (DataW Unit)
  | .slice es _ => es
  | _ => []
def orbL : List (DataW Unit) := orbOf Rows.laid_unicode_caseOrbit
theorem orb_eq : (Rows.laid_unicode_caseOrbit : DataW Unit) = .slice orbL [] := by kernel_rfl
theorem orb_len : orbL.length = 94 := by kernel_rfl
def ent (x y : Int) : DataW Unit := .agg ([x, y].map fun z => .lit (.int .u16 z))
theorem orb0 : orbL[0]? = some (ent 75 107) := by kernel_rfl
theorem orb47 : orbL[47]? = some (ent 966 981) := by kernel_rfl
theorem orb23 : orbL[23]? = some (ent 837 921) := by kernel_rfl
theorem orb11 : orbL[11]? = some (ent 452 453) := by kernel_rfl
theorem orb5 : orbL[5]? = some (ent 197 229) := by kernel_rfl
theorem orb8 : orbL[8]? = some (ent 304 304) := by kernel_rfl
theorem orb10 : orbL[10]? = some (ent 383 83) := by kernel_rfl
theorem orb9 : orbL[9]? = some (ent 305 305) := by kernel_rfl
theorem orbNamed : Tryd.prog.globalNamed "unicode.caseOrbit" = some 1 := by kernel_rfl
theorem orbType : (Tryd.prog.globals[1]?).map (·.type) = some 34 := by kernel_rfl
theorem foldNamed : Tryd.prog.globalNamed "unicode.asciiFold" = some 0 := by kernel_rfl
theorem foldType : (Tryd.prog.globals[0]?).map (·.type) = some 33 := by kernel_rfl
theorem c37 : Tryd.prog.cellsOf 37 = 2 := by kernel_rfl
theorem c32 : Tryd.prog.cellsOf 32 = 1 := by kernel_rfl

theorem af_of {W : World} (r : Lib.VarReads Tryd.prog W "unicode.asciiFold" (Lib.tabData .u16 foldTab)) : AF W := by
  intro c hc
  obtain ⟨g, t, cs, fuel, p, hg, hty, hvar, hd⟩ := r
  obtain rfl := Option.some.inj (foldNamed.symm.trans hg)
  obtain rfl := Option.some.inj (foldType.symm.trans hty)
  have hcs := Lib.cells_of_tab (n := 128) (e := 32) (by kernel_rfl) (by kernel_rfl) (by kernel_rfl) (by kernel_rfl) hd
  have := World.var?_cell hg hvar c
  rw [this, ← Array.getElem?_toList, hcs]
  simp [foldTab, hc]

theorem co_of {W : World} (r : Lib.VarReads Tryd.prog W "unicode.caseOrbit" (.slice orbL [])) : CO W := by
  obtain ⟨g, t, cs, fuel, p, hg, hty, hvar, hd⟩ := r
  obtain rfl := Option.some.inj (orbNamed.symm.trans hg)
  obtain rfl := Option.some.inj (orbType.symm.trans hty)
  rcases DataW.trod_slice Tryd.underlying34 hd with ⟨_, hx'⟩ | ⟨a', len, cap, el, rs, m, _, hc0, hx', _, hlc, _, hel, helem, _, _⟩
  · cases hx'
  have eE : el.map (·.1) = orbL := by
    have := congrArg Prod.fst hx'
    simp only [DataW.slice.injEq] at this
    exact this.1.symm
  have hlen : len = 94 := by
    have := congrArg List.length eE
    rw [List.length_map, orb_len] at this
    omega
  subst hlen
  have hrange : ∀ i x y, i < 94 → orbL[i]? = some (ent x y) → ∀ j, j < 2 → W.cell? ((a'.add (i * 2)).add j) = some (.int .u16 ([x, y].getD j 0)) := by
    intro i x y hi hxy j hj
    have h1 := helem i hi
    rw [c37] at h1
    obtain ⟨b, hb⟩ : ∃ b, el[i]? = some b := ⟨el[i]'(by omega), List.getElem?_eq_getElem (by omega)⟩
    rw [hb] at h1
    obtain ⟨ce, hce, hte⟩ := Option.bind_eq_some_iff.1 h1
    have hb1 : b.1 = ent x y := by
      have := congrArg (·[i]?) eE
      simp only [List.getElem?_map, hb, Option.map_some, hxy, Option.some.injEq] at this
      exact this
    have hcs := Lib.ints_of_struct (p := b.2) (zs := [x, y]) (k := .u16) Tryd.underlying37 (fun q f hq => by
      match q, hq with
      | 0, hq => simp at hq; subst hq; exact ⟨Tryd.underlying32, rfl, c32⟩
      | 1, hq => simp at hq; subst hq; exact ⟨Tryd.underlying32, rfl, c32⟩
      | q + 2, hq => simp at hq) (by rw [c37]; rfl) (by
        have e : (b.1, b.2) = b := rfl
        rw [show DataW.agg ([x, y].map fun z => DataW.lit (.int .u16 z)) = b.1 from hb1.symm, e]
        exact hte)
    obtain ⟨_, _, hcc⟩ := World.cells?_some hce
    rw [hcc j hj, hcs]
    match j, hj with
    | 0, _ => rfl
    | 1, _ => rfl
  obtain ⟨R, oR, sR⟩ := a'
  obtain rfl : sR = none := by
    have h00 := hrange 0 _ _ (by omega) orb0 0 (by omega)
    have : (Addr.add (Addr.add ⟨R, oR, sR⟩ (0 * 2)) 0) = ⟨R, oR, sR⟩ := by simp [Addr.add]
    rw [this] at h00
    exact cell_spot h00
  have q := fun i x y hi hxy => (hrange i x y hi hxy 0 (by omega))
  have q1 := hrange 10 _ _ (by omega) orb10 1 (by omega)
  simp only [Addr.add_lit] at q q1
  refine ⟨R, oR, cap, ?_, hlc, ?_, ?_, ?_, ?_, ?_, ?_, ?_, ?_⟩
  · rw [World.var?_cell hg hvar 0, ← Array.getElem?_toList, hc0]
    rfl
  · exact q 47 _ _ (by omega) orb47
  · exact q 23 _ _ (by omega) orb23
  · exact q 11 _ _ (by omega) orb11
  · exact q 5 _ _ (by omega) orb5
  · exact q 8 _ _ (by omega) orb8
  · exact q 10 _ _ (by omega) orb10
  · exact q 9 _ _ (by omega) orb9
  · exact q1
theorem tabs_of_laid {W : World} (hL0 : laidMetH Tryd.prog laidA W) : AF W ∧ CO W ∧ Lib.Utf8Tabs 3 4 W := by
  have hL := hL0
  rw [MakeChecks.laidMetH_plain _ _ _ (by kernel_rfl)] at hL
  have r0 := Lib.laidMet.reads hL (.head _)
  have r1 := Lib.laidMet.reads hL (.tail _ (.head _))
  have r2 := Lib.laidMet.reads hL (.tail _ (.tail _ (.head _)))
  have r4 := Lib.laidMet.reads hL (.tail _ (.tail _ (.tail _ (.tail _ (.head _)))))
  rw [acc_eq] at r0
  rw [fold_eq] at r1
  rw [orb_eq] at r2
  have r4' : Lib.VarReads Tryd.prog W "unicode/utf8.first" Lib.firstData := by rw [← Pinned.utf8First_eq]; exact r4
  exact ⟨af_of r1, co_of r2, utf8Tabs_of_readsT typesU extraU r4' r0⟩
end Go.Proofs.Qxb6605199aDoor
