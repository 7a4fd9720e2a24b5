import Derived.Test.Qxb6605199aDoorW4
import Derived.Test.Qxb6605199aDoorW5
import Derived.Lib.SlBytesConst
namespace Go.Proofs.Qxb6605199aDoor
open Go.RowKit Go.Lib

/-- A row of bytes: nil, or a whole block. -/
def Line (w : World) (v : Value) (l : List UInt8) : Prop := (v = .slice none 0 0 ∧ l = []) ∨ ∃ b n, v = .slice (some ⟨b, 0, none⟩) n n ∧ l.length = n ∧ n ≤ 4294967296 ∧ BA w b 0 l
theorem Line.below {w w' : World} {v : Value} {l : List UInt8} (h : Line w v l) (hb : Below w.heap.size w w') : Line w' v l := by
  rcases h with h | ⟨b, n, h1, h2, h3, h4⟩
  · exact .inl h
  · exact .inr ⟨b, n, h1, h2, h3, h4.below hb⟩

theorem sfx (l p : List UInt8) (hp : p.length = 9) : p.isSuffixOf l = (decide (9 ≤ l.length) && l.drop (l.length - 9) == p) := by
  rw [Bool.eq_iff_iff, List.isSuffixOf_iff_suffix, List.suffix_iff_eq_drop, hp]
  simp only [Bool.and_eq_true, decide_eq_true_eq, beq_iff_eq]
  constructor
  · intro h
    have := congrArg List.length h
    rw [hp, List.length_drop] at this
    exact ⟨by omega, h.symm⟩
  · exact fun h => h.2.symm
theorem ends_sfx (l : List UInt8) : ends l = ((hd8 ++ [48]).isSuffixOf l || (hd8 ++ [49]).isSuffixOf l) := by
  rw [sfx l _ rfl, sfx l _ rfl, ← Bool.and_or_distrib_left]
  rfl

theorem map_ba (l : List UInt8) (i : Nat) (h : i < l.length) : (l.map fun b => (b.toNat : Int)).getD i 0 = ba l i := by
  unfold ba
  simp [List.getD_eq_getElem?_getD, h]
theorem bytesOf_map' (l : List UInt8) : Lib.bytesOf (l.map fun b => (b.toNat : Int)) = l := by
  unfold Lib.bytesOf
  rw [List.map_map]
  conv => rhs; rw [← List.map_id l]
  apply List.map_congr_left
  intro b _
  simp
/-- bytes.HasSuffix at a line. -/
theorem hs_line (w : World) (v : Value) (l p : List UInt8) (h : Line w v l) (bt m cap : Nat) (hm : p.length = m) (hm0 : 0 < m) (hm9 : m ≤ 9) (hP : BA w bt 0 p) :
    Calls Tryd.prog 10 #[v, .slice (some ⟨bt, 0, none⟩) m cap] w fun e w' => e = .returned (.bool (p.isSuffixOf l)) ∧ w' = w := by
  rcases h with ⟨rfl, rfl⟩ | ⟨b, n, rfl, hn, hn2, hB⟩
  · have HF : Hid (p.isSuffixOf ([] : List UInt8) = false) := Hid.mk (by cases p <;> simp_all)
    go_enter Tryd.func10, Tryd.ntmps10
    go_wp2
    go_ret
    exact ⟨by rw [HF.out]; rfl, rfl⟩
  · have h := Tryd.bytes_HasSuffix b 0 n n bt 0 m cap (l.map fun b => (b.toNat : Int)) (p.map fun b => (b.toNat : Int)) w (by simpa using hn) (by simpa using hm) (Nat.le_refl _) (by omega)
      (fun i hi => by rw [hB i (by omega), map_ba l i (by omega)]) (fun i hi => by rw [hP i (by omega), map_ba p i (by omega)])
    rw [bytesOf_map', bytesOf_map'] at h
    exact h
set_option maxHeartbeats 1000000 in
set_option maxRecDepth 1000000 in
/-- bytes.EqualFold at a word. -/
theorem fd_line (w : World) (v : Value) (l p : List UInt8) (h : Line w v l) (bt m : Nat) (hm : p.length = m) (hm0 : 0 < m) (hm5 : m ≤ 5) (hP : BA w bt 0 p) (hpa : ∀ i, i < m → ba p i ∈ signs) (hA : AF w) (hC : CO w) (hT : Lib.Utf8Tabs 3 4 w) :
    Calls Tryd.prog 11 #[v, .slice (some ⟨bt, 0, none⟩) m m] w fun e w' => e = .returned (.bool (ef l p)) ∧ Below w.heap.size w w' := by
  rcases h with ⟨rfl, rfl⟩ | ⟨b, n, rfl, hn, hn2, hB⟩
  · have HF : Hid (ef [] p = false) := Hid.mk (by cases p with | nil => simp at hm; omega | cons => rfl)
    clear hA hC hT hpa hP hm
    have hb : ((0 : Int) == (m : Int)) = false := by rw [beq_eq_false_iff_ne]; omega
    have hmin : min (0 : Int) (m : Int) = 0 := by omega
    go_enter Tryd.func11, Tryd.ntmps11
    go_wp2
    refine wp_scope_jumps 0 (fun _ _ => False) (fun _ _ => 0) rfl ?first ?pass
    case first =>
      go_wp2
      go_loop [5] (fun iv => iv = .int .i64 0) (fun _ => 0)
      case atStart => rfl
      case round =>
        subst hrel
        go_wp2
        simp only [Exit.jump]
        go_ret
        exact ⟨by rw [HF.out]; rfl, Below.refl _ _⟩
    case pass =>
      intro a0 w0 hJ
      exact hJ.elim
  · exact fold_some w b 0 n n l hn (Nat.le_refl _) hn2 hB bt m p hm hm5 hP hpa hA hC hT
theorem ends_line (w : World) (v : Value) (l : List UInt8) (h : Line w v l) : Calls Tryd.prog 7 #[v] w fun e w' => e = .returned (.bool (ends l)) ∧ Below w.heap.size w w' := by
  rcases h with ⟨rfl, rfl⟩ | ⟨b, n, rfl, hn, hn2, hB⟩
  · exact ends_nil w
  · exact ends_some w b 0 n n l hn hn2 hB
end Go.Proofs.Qxb6605199aDoor
