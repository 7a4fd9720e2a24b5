import Derived.Test.Qxb6003914aDoorW7
namespace Go.Proofs.Qxb6003914aDoor
open Go.RowKit

/-- The order of two decimals, each written as its sign, its two runs and its point. -/
theorem compare_any (n1 n2 : Bool) (a b c d : ByteArray) (p q : Int) (w : World) (ha : a.size ≤ 2147483648) (hb : b.size ≤ 2147483648) (hc : c.size ≤ 2147483648) (hd : d.size ≤ 2147483648) :
    Calls Tryd.prog 19 #[.agg #[.bool n1, .string a, .string b, .int .i64 p], .agg #[.bool n2, .string c, .string d, .int .i64 q]] w fun e w' =>
      e = .returned (.int .i64 (cmpD n1 n2 p q (a.data.toList ++ b.data.toList) (c.data.toList ++ d.data.toList))) ∧ Below w.heap.size w w' := by
  have lx : (a.data.toList ++ b.data.toList).length = a.size + b.size := by simp
  have ly : (c.data.toList ++ d.data.toList).length = c.size + d.size := by simp
  unfold cmpD
  rw [lx, ly]
  by_cases h : sgn n1 (a.size + b.size) = sgn n2 (c.size + d.size)
  · rw [if_pos h]
    exact cmp_eq n1 n2 a b c d p q w ha hb hc hd _ rfl h.symm
  · rw [if_neg h]
    exact cmp_ne n1 n2 a b c d p q w ha hb hc hd _ _ rfl rfl (by rw [bne_iff_ne]; exact h)

set_option maxHeartbeats 400000 in
/-- ZZDecimalCompare. -/
theorem zzcmp_any (n1 n2 : Bool) (a b c d : ByteArray) (p q : Int) (w : World) (ha : a.size ≤ 2147483648) (hb : b.size ≤ 2147483648) (hc : c.size ≤ 2147483648) (hd : d.size ≤ 2147483648) :
    Calls Tryd.prog 13 #[.agg #[.bool n1, .string a, .string b, .int .i64 p], .agg #[.bool n2, .string c, .string d, .int .i64 q]] w fun e w' =>
      e = .returned (.int .i64 (cmpD n1 n2 p q (a.data.toList ++ b.data.toList) (c.data.toList ++ d.data.toList))) ∧ Below w.heap.size w w' := by
  have M := fun w' => compare_any n1 n2 a b c d p q w' ha hb hc hd
  generalize cmpD n1 n2 p q (a.data.toList ++ b.data.toList) (c.data.toList ++ d.data.toList) = m at *
  have HM := Hid.mk M
  clear M
  go_enter Tryd.func13, Tryd.ntmps13
  go_wp2_with fail
  refine (HM.out _).mono ?_
  rintro e w1 ⟨rfl, hbl⟩
  go_wp2
  go_ret
  refine ⟨rfl, Below.trans ?_ (hbl.mono ?_)⟩
  · go_grown
  · simp; omega

theorem ext (l : List UInt8) (i j : Nat) : (⟨l.toArray⟩ : ByteArray).extract i j = ⟨((l.take j).drop i).toArray⟩ := by
  apply ByteArray.ext
  rw [ByteArray.data_extract, List.drop_take]
  simp
theorem size_mk (l : List UInt8) : (⟨l.toArray⟩ : ByteArray).size = l.length := by
  show l.toArray.size = _
  simp
theorem ext_end (l : List UInt8) (i : Nat) : (⟨l.toArray⟩ : ByteArray).extract i (⟨l.toArray⟩ : ByteArray).size = ⟨(l.drop i).toArray⟩ := by
  rw [ext, size_mk, List.take_length]
theorem ext_left (A B : List UInt8) : (⟨(A ++ B).toArray⟩ : ByteArray).extract 0 A.length = ⟨A.toArray⟩ := by rw [ext, List.take_left, List.drop_zero]
theorem ext_right (A B : List UInt8) : (⟨(A ++ B).toArray⟩ : ByteArray).extract A.length (⟨(A ++ B).toArray⟩ : ByteArray).size = ⟨B.toArray⟩ := by rw [ext_end, List.drop_left]
theorem ext_tail (c : UInt8) (t : List UInt8) : (⟨(c :: t).toArray⟩ : ByteArray).extract 1 (⟨(c :: t).toArray⟩ : ByteArray).size = ⟨t.toArray⟩ := by rw [ext_end]; rfl
theorem ext_mid (c : UInt8) (A B : List UInt8) : (⟨(c :: (A ++ B)).toArray⟩ : ByteArray).extract 1 (1 + A.length) = ⟨A.toArray⟩ := by
  rw [ext, Nat.add_comm, List.take_succ_cons, List.take_left]; rfl
theorem ext_midr (c : UInt8) (A B : List UInt8) : (⟨(c :: (A ++ B)).toArray⟩ : ByteArray).extract (1 + A.length) (⟨(c :: (A ++ B)).toArray⟩ : ByteArray).size = ⟨B.toArray⟩ := by
  rw [ext_end, Nat.add_comm, List.drop_succ_cons, List.drop_left]
theorem skip_app (W : List UInt8) (c : UInt8) (t : List UInt8) (h : ∀ c ∈ W, digB c = true) (hc : digB c = false) : skipN (W ++ c :: t) = W.length := by
  induction W with
  | nil => simp [skipN, hc]
  | cons a W ih =>
    have h1 := h a (by simp)
    have h2 := ih (fun c hc => h c (by simp [hc]))
    unfold skipN at h2 ⊢
    simp [h1, h2]

/-- parseExponent, at a text that spells a number. -/
theorem pexp_any (S : List UInt8) (v : Int) (w : World) (h : Spells S v) (h0 : -1073741824 ≤ v) (h1 : v ≤ 1073741824) :
    Calls Tryd.prog 21 #[.string ⟨S.toArray⟩] w fun e w' => e = .returned (.tuple #[.int .i64 v, .string ⟨#[]⟩, .bool true]) ∧ ∃ n, w' = w.drewN n := by
  obtain ⟨D, hD, hd, hl, h⟩ := h
  have hp : 0 < D.length := List.length_pos_iff.2 hD
  rcases h with ⟨hv, rfl, e⟩ | ⟨hv, rfl, e⟩
  · have := pexp_pos ⟨S.toArray⟩ w (by rw [size_mk]; exact hp) (by rw [size_mk]; omega) hd (by show valOf S ≤ _; omega)
    rw [show (valOf (⟨S.toArray⟩ : ByteArray).data.toList : Int) = v from e] at this
    exact this
  · have := pexp_neg ⟨(45 :: D).toArray⟩ ⟨D.toArray⟩ w (ext_tail _ _) (by rw [size_mk]; simp) rfl (by rw [size_mk]; simp; omega) (by rw [size_mk]; exact hp) (by rw [size_mk]; omega) hd (by show valOf D ≤ _; omega)
    rw [show (-(valOf (⟨D.toArray⟩ : ByteArray).data.toList : Int)) = v from by show -(valOf D : Int) = v; omega] at this
    exact this

/-- The text of a decimal: a sign, digits, a point with digits behind it (or none), an exponent. -/
def txt (ng : Bool) (W F S : List UInt8) : List UInt8 := (if ng then [45] else []) ++ (W ++ ((if F.isEmpty then [] else 46 :: F) ++ 101 :: S))

set_option linter.unusedSimpArgs false in
theorem parse_any (ng : Bool) (W F S : List UInt8) (x : Int) (w : World) (hW0 : W ≠ []) (hW : ∀ c ∈ W, digB c = true) (hF : ∀ c ∈ F, digB c = true) (hS : Spells S x)
    (h0 : -1073741824 ≤ x) (h1 : x ≤ 1073741824) (hl : W.length + F.length ≤ 1073741824) :
    Calls Tryd.prog 18 #[.string ⟨(txt ng W F S).toArray⟩] w fun e w' => e = .returned (.tuple #[dvl (pd ng W F x), .bool true]) ∧ Below w.heap.size w w' := by
  have HE : Hid (∀ w, Calls Tryd.prog 21 #[.string ⟨S.toArray⟩] w fun e w' => e = .returned (.tuple #[.int .i64 x, .string ⟨#[]⟩, .bool true]) ∧ ∃ n, w' = w.drewN n) := fun w => pexp_any S x w hS h0 h1
  have sl : S.length ≤ 20 := by
    obtain ⟨D, _, _, hl, h⟩ := hS
    rcases h with ⟨_, rfl, _⟩ | ⟨_, rfl, _⟩
    · omega
    · simp; omega
  have wp : 0 < W.length := List.length_pos_iff.2 hW0
  have w0 : ((W.length : Int) == 0) = false := beq_eq_false_iff_ne.2 (by omega)
  obtain ⟨c, W', hcW⟩ : ∃ c W', W = c :: W' := by
    cases W with
    | nil => exact absurd rfl hW0
    | cons c W' => exact ⟨c, W', rfl⟩
  have hc := dig_bd (hW c (by rw [hcW]; simp))
  cases hf : F.isEmpty
  · -- a fraction
    have f0 : 0 < F.length := by
      cases F with
      | nil => simp at hf
      | cons _ _ => simp
    have fz : ((F.length : Int) == 0) = false := beq_eq_false_iff_ne.2 (by omega)
    cases ng
    · have t45 : ((((⟨(W ++ 46 :: (F ++ 101 :: S)).toArray⟩ : ByteArray)[0]'(by rw [size_mk]; simp only [List.length_append, List.length_cons]; omega)).toNat : Int) == 45) = false := by
        subst hcW
        show ((c.toNat : Int) == 45) = false
        exact beq_eq_false_iff_ne.2 (by omega)
      have et : txt false W F S = (W ++ 46 :: (F ++ 101 :: S)) := by simp [txt, hf]
      rw [et]
      cases k1 : (tl W).isEmpty
      · cases k2 : (tr F).isEmpty
        · exact pd_pf4 ⟨(W ++ 46 :: (F ++ 101 :: S)).toArray⟩ ⟨(46 :: (F ++ 101 :: S)).toArray⟩ ⟨(F ++ 101 :: S).toArray⟩ ⟨(101 :: S).toArray⟩ ⟨S.toArray⟩ W F x w (by rw [size_mk]; simp only [List.length_append, List.length_cons]; omega) (by rw [size_mk]; simp only [List.length_append, List.length_cons]; omega) t45 (skip_app W 46 (F ++ 101 :: S) hW rfl) w0 (by rw [size_mk]; simp only [List.length_append, List.length_cons]; omega) (ext_left _ _) (ext_right _ _) (by rw [size_mk]; simp only [List.length_append, List.length_cons]; omega) (by rw [size_mk]; simp only [List.length_append, List.length_cons]; omega) rfl (ext_tail _ _) (by rw [size_mk]; simp only [List.length_append, List.length_cons]; omega) (skip_app F 101 S hF rfl) fz (by rw [size_mk]; simp only [List.length_append, List.length_cons]; omega) (ext_mid _ _ _) (ext_midr _ _ _) (by rw [size_mk]; simp only [List.length_append, List.length_cons]; omega) (by rw [size_mk]; simp only [List.length_append, List.length_cons]; omega) rfl (ext_tail _ _) h0 h1 HE k1 k2
        · have k2 := List.isEmpty_iff.1 k2
          exact pd_pf3 ⟨(W ++ 46 :: (F ++ 101 :: S)).toArray⟩ ⟨(46 :: (F ++ 101 :: S)).toArray⟩ ⟨(F ++ 101 :: S).toArray⟩ ⟨(101 :: S).toArray⟩ ⟨S.toArray⟩ W F x w (by rw [size_mk]; simp only [List.length_append, List.length_cons]; omega) (by rw [size_mk]; simp only [List.length_append, List.length_cons]; omega) t45 (skip_app W 46 (F ++ 101 :: S) hW rfl) w0 (by rw [size_mk]; simp only [List.length_append, List.length_cons]; omega) (ext_left _ _) (ext_right _ _) (by rw [size_mk]; simp only [List.length_append, List.length_cons]; omega) (by rw [size_mk]; simp only [List.length_append, List.length_cons]; omega) rfl (ext_tail _ _) (by rw [size_mk]; simp only [List.length_append, List.length_cons]; omega) (skip_app F 101 S hF rfl) fz (by rw [size_mk]; simp only [List.length_append, List.length_cons]; omega) (ext_mid _ _ _) (ext_midr _ _ _) (by rw [size_mk]; simp only [List.length_append, List.length_cons]; omega) (by rw [size_mk]; simp only [List.length_append, List.length_cons]; omega) rfl (ext_tail _ _) h0 h1 HE k1 k2
      · have k1 := List.isEmpty_iff.1 k1
        cases k2 : (tr (tl F)).isEmpty
        · exact pd_pf2 ⟨(W ++ 46 :: (F ++ 101 :: S)).toArray⟩ ⟨(46 :: (F ++ 101 :: S)).toArray⟩ ⟨(F ++ 101 :: S).toArray⟩ ⟨(101 :: S).toArray⟩ ⟨S.toArray⟩ W F x w (by rw [size_mk]; simp only [List.length_append, List.length_cons]; omega) (by rw [size_mk]; simp only [List.length_append, List.length_cons]; omega) t45 (skip_app W 46 (F ++ 101 :: S) hW rfl) w0 (by rw [size_mk]; simp only [List.length_append, List.length_cons]; omega) (ext_left _ _) (ext_right _ _) (by rw [size_mk]; simp only [List.length_append, List.length_cons]; omega) (by rw [size_mk]; simp only [List.length_append, List.length_cons]; omega) rfl (ext_tail _ _) (by rw [size_mk]; simp only [List.length_append, List.length_cons]; omega) (skip_app F 101 S hF rfl) fz (by rw [size_mk]; simp only [List.length_append, List.length_cons]; omega) (ext_mid _ _ _) (ext_midr _ _ _) (by rw [size_mk]; simp only [List.length_append, List.length_cons]; omega) (by rw [size_mk]; simp only [List.length_append, List.length_cons]; omega) rfl (ext_tail _ _) h0 h1 HE k1 k2
        · have k2 := List.isEmpty_iff.1 k2
          exact pd_pf1 ⟨(W ++ 46 :: (F ++ 101 :: S)).toArray⟩ ⟨(46 :: (F ++ 101 :: S)).toArray⟩ ⟨(F ++ 101 :: S).toArray⟩ ⟨(101 :: S).toArray⟩ ⟨S.toArray⟩ W F x w (by rw [size_mk]; simp only [List.length_append, List.length_cons]; omega) (by rw [size_mk]; simp only [List.length_append, List.length_cons]; omega) t45 (skip_app W 46 (F ++ 101 :: S) hW rfl) w0 (by rw [size_mk]; simp only [List.length_append, List.length_cons]; omega) (ext_left _ _) (ext_right _ _) (by rw [size_mk]; simp only [List.length_append, List.length_cons]; omega) (by rw [size_mk]; simp only [List.length_append, List.length_cons]; omega) rfl (ext_tail _ _) (by rw [size_mk]; simp only [List.length_append, List.length_cons]; omega) (skip_app F 101 S hF rfl) fz (by rw [size_mk]; simp only [List.length_append, List.length_cons]; omega) (ext_mid _ _ _) (ext_midr _ _ _) (by rw [size_mk]; simp only [List.length_append, List.length_cons]; omega) (by rw [size_mk]; simp only [List.length_append, List.length_cons]; omega) rfl (ext_tail _ _) h0 h1 HE k1 k2
    · have et : txt true W F S = 45 :: (W ++ 46 :: (F ++ 101 :: S)) := by simp [txt, hf]
      rw [et]
      cases k1 : (tl W).isEmpty
      · cases k2 : (tr F).isEmpty
        · exact pd_nf4 ⟨(45 :: (W ++ 46 :: (F ++ 101 :: S))).toArray⟩ ⟨(W ++ 46 :: (F ++ 101 :: S)).toArray⟩ ⟨(46 :: (F ++ 101 :: S)).toArray⟩ ⟨(F ++ 101 :: S).toArray⟩ ⟨(101 :: S).toArray⟩ ⟨S.toArray⟩ W F x w (by rw [size_mk]; simp only [List.length_append, List.length_cons]; omega) (by rw [size_mk]; simp only [List.length_append, List.length_cons]; omega) rfl (ext_tail _ _) (by rw [size_mk]; simp only [List.length_append, List.length_cons]; omega) (skip_app W 46 (F ++ 101 :: S) hW rfl) w0 (by rw [size_mk]; simp only [List.length_append, List.length_cons]; omega) (ext_left _ _) (ext_right _ _) (by rw [size_mk]; simp only [List.length_append, List.length_cons]; omega) (by rw [size_mk]; simp only [List.length_append, List.length_cons]; omega) rfl (ext_tail _ _) (by rw [size_mk]; simp only [List.length_append, List.length_cons]; omega) (skip_app F 101 S hF rfl) fz (by rw [size_mk]; simp only [List.length_append, List.length_cons]; omega) (ext_mid _ _ _) (ext_midr _ _ _) (by rw [size_mk]; simp only [List.length_append, List.length_cons]; omega) (by rw [size_mk]; simp only [List.length_append, List.length_cons]; omega) rfl (ext_tail _ _) h0 h1 HE k1 k2
        · have k2 := List.isEmpty_iff.1 k2
          exact pd_nf3 ⟨(45 :: (W ++ 46 :: (F ++ 101 :: S))).toArray⟩ ⟨(W ++ 46 :: (F ++ 101 :: S)).toArray⟩ ⟨(46 :: (F ++ 101 :: S)).toArray⟩ ⟨(F ++ 101 :: S).toArray⟩ ⟨(101 :: S).toArray⟩ ⟨S.toArray⟩ W F x w (by rw [size_mk]; simp only [List.length_append, List.length_cons]; omega) (by rw [size_mk]; simp only [List.length_append, List.length_cons]; omega) rfl (ext_tail _ _) (by rw [size_mk]; simp only [List.length_append, List.length_cons]; omega) (skip_app W 46 (F ++ 101 :: S) hW rfl) w0 (by rw [size_mk]; simp only [List.length_append, List.length_cons]; omega) (ext_left _ _) (ext_right _ _) (by rw [size_mk]; simp only [List.length_append, List.length_cons]; omega) (by rw [size_mk]; simp only [List.length_append, List.length_cons]; omega) rfl (ext_tail _ _) (by rw [size_mk]; simp only [List.length_append, List.length_cons]; omega) (skip_app F 101 S hF rfl) fz (by rw [size_mk]; simp only [List.length_append, List.length_cons]; omega) (ext_mid _ _ _) (ext_midr _ _ _) (by rw [size_mk]; simp only [List.length_append, List.length_cons]; omega) (by rw [size_mk]; simp only [List.length_append, List.length_cons]; omega) rfl (ext_tail _ _) h0 h1 HE k1 k2
      · have k1 := List.isEmpty_iff.1 k1
        cases k2 : (tr (tl F)).isEmpty
        · exact pd_nf2 ⟨(45 :: (W ++ 46 :: (F ++ 101 :: S))).toArray⟩ ⟨(W ++ 46 :: (F ++ 101 :: S)).toArray⟩ ⟨(46 :: (F ++ 101 :: S)).toArray⟩ ⟨(F ++ 101 :: S).toArray⟩ ⟨(101 :: S).toArray⟩ ⟨S.toArray⟩ W F x w (by rw [size_mk]; simp only [List.length_append, List.length_cons]; omega) (by rw [size_mk]; simp only [List.length_append, List.length_cons]; omega) rfl (ext_tail _ _) (by rw [size_mk]; simp only [List.length_append, List.length_cons]; omega) (skip_app W 46 (F ++ 101 :: S) hW rfl) w0 (by rw [size_mk]; simp only [List.length_append, List.length_cons]; omega) (ext_left _ _) (ext_right _ _) (by rw [size_mk]; simp only [List.length_append, List.length_cons]; omega) (by rw [size_mk]; simp only [List.length_append, List.length_cons]; omega) rfl (ext_tail _ _) (by rw [size_mk]; simp only [List.length_append, List.length_cons]; omega) (skip_app F 101 S hF rfl) fz (by rw [size_mk]; simp only [List.length_append, List.length_cons]; omega) (ext_mid _ _ _) (ext_midr _ _ _) (by rw [size_mk]; simp only [List.length_append, List.length_cons]; omega) (by rw [size_mk]; simp only [List.length_append, List.length_cons]; omega) rfl (ext_tail _ _) h0 h1 HE k1 k2
        · have k2 := List.isEmpty_iff.1 k2
          exact pd_nf1 ⟨(45 :: (W ++ 46 :: (F ++ 101 :: S))).toArray⟩ ⟨(W ++ 46 :: (F ++ 101 :: S)).toArray⟩ ⟨(46 :: (F ++ 101 :: S)).toArray⟩ ⟨(F ++ 101 :: S).toArray⟩ ⟨(101 :: S).toArray⟩ ⟨S.toArray⟩ W F x w (by rw [size_mk]; simp only [List.length_append, List.length_cons]; omega) (by rw [size_mk]; simp only [List.length_append, List.length_cons]; omega) rfl (ext_tail _ _) (by rw [size_mk]; simp only [List.length_append, List.length_cons]; omega) (skip_app W 46 (F ++ 101 :: S) hW rfl) w0 (by rw [size_mk]; simp only [List.length_append, List.length_cons]; omega) (ext_left _ _) (ext_right _ _) (by rw [size_mk]; simp only [List.length_append, List.length_cons]; omega) (by rw [size_mk]; simp only [List.length_append, List.length_cons]; omega) rfl (ext_tail _ _) (by rw [size_mk]; simp only [List.length_append, List.length_cons]; omega) (skip_app F 101 S hF rfl) fz (by rw [size_mk]; simp only [List.length_append, List.length_cons]; omega) (ext_mid _ _ _) (ext_midr _ _ _) (by rw [size_mk]; simp only [List.length_append, List.length_cons]; omega) (by rw [size_mk]; simp only [List.length_append, List.length_cons]; omega) rfl (ext_tail _ _) h0 h1 HE k1 k2
  · have hF0 := List.isEmpty_iff.1 hf
    subst hF0
    cases ng
    · have t45 : ((((⟨(W ++ 101 :: S).toArray⟩ : ByteArray)[0]'(by rw [size_mk]; simp only [List.length_append, List.length_cons]; omega)).toNat : Int) == 45) = false := by
        subst hcW
        show ((c.toNat : Int) == 45) = false
        exact beq_eq_false_iff_ne.2 (by omega)
      have et : txt false W [] S = (W ++ 101 :: S) := by simp [txt]
      rw [et]
      cases k1 : (tl W).isEmpty
      · exact pd_pi3 ⟨(W ++ 101 :: S).toArray⟩ ⟨(101 :: S).toArray⟩ ⟨S.toArray⟩ W x w (by rw [size_mk]; simp only [List.length_append, List.length_cons]; omega) (by rw [size_mk]; simp only [List.length_append, List.length_cons]; omega) t45 (skip_app W 101 S hW rfl) w0 (by rw [size_mk]; simp only [List.length_append, List.length_cons]; omega) (ext_left _ _) (ext_right _ _) (by rw [size_mk]; simp only [List.length_append, List.length_cons]; omega) (by rw [size_mk]; simp only [List.length_append, List.length_cons]; omega) rfl rfl (ext_tail _ _) h0 h1 HE k1
      · have k1 := List.isEmpty_iff.1 k1
        exact pd_pi1 ⟨(W ++ 101 :: S).toArray⟩ ⟨(101 :: S).toArray⟩ ⟨S.toArray⟩ W x w (by rw [size_mk]; simp only [List.length_append, List.length_cons]; omega) (by rw [size_mk]; simp only [List.length_append, List.length_cons]; omega) t45 (skip_app W 101 S hW rfl) w0 (by rw [size_mk]; simp only [List.length_append, List.length_cons]; omega) (ext_left _ _) (ext_right _ _) (by rw [size_mk]; simp only [List.length_append, List.length_cons]; omega) (by rw [size_mk]; simp only [List.length_append, List.length_cons]; omega) rfl rfl (ext_tail _ _) h0 h1 HE k1
    · have et : txt true W [] S = 45 :: (W ++ 101 :: S) := by simp [txt]
      rw [et]
      cases k1 : (tl W).isEmpty
      · exact pd_ni3 ⟨(45 :: (W ++ 101 :: S)).toArray⟩ ⟨(W ++ 101 :: S).toArray⟩ ⟨(101 :: S).toArray⟩ ⟨S.toArray⟩ W x w (by rw [size_mk]; simp only [List.length_append, List.length_cons]; omega) (by rw [size_mk]; simp only [List.length_append, List.length_cons]; omega) rfl (ext_tail _ _) (by rw [size_mk]; simp only [List.length_append, List.length_cons]; omega) (skip_app W 101 S hW rfl) w0 (by rw [size_mk]; simp only [List.length_append, List.length_cons]; omega) (ext_left _ _) (ext_right _ _) (by rw [size_mk]; simp only [List.length_append, List.length_cons]; omega) (by rw [size_mk]; simp only [List.length_append, List.length_cons]; omega) rfl rfl (ext_tail _ _) h0 h1 HE k1
      · have k1 := List.isEmpty_iff.1 k1
        exact pd_ni1 ⟨(45 :: (W ++ 101 :: S)).toArray⟩ ⟨(W ++ 101 :: S).toArray⟩ ⟨(101 :: S).toArray⟩ ⟨S.toArray⟩ W x w (by rw [size_mk]; simp only [List.length_append, List.length_cons]; omega) (by rw [size_mk]; simp only [List.length_append, List.length_cons]; omega) rfl (ext_tail _ _) (by rw [size_mk]; simp only [List.length_append, List.length_cons]; omega) (skip_app W 101 S hW rfl) w0 (by rw [size_mk]; simp only [List.length_append, List.length_cons]; omega) (ext_left _ _) (ext_right _ _) (by rw [size_mk]; simp only [List.length_append, List.length_cons]; omega) (by rw [size_mk]; simp only [List.length_append, List.length_cons]; omega) rfl rfl (ext_tail _ _) h0 h1 HE k1

theorem size_tl (l : List UInt8) : (⟨(tl l).toArray⟩ : ByteArray).size ≤ l.length := by rw [size_mk]; exact tl_len l
set_option maxHeartbeats 400000 in
/-- ZZparseDecimal. -/
theorem zzparse_any (ng : Bool) (W F S : List UInt8) (x : Int) (w : World) (hW0 : W ≠ []) (hW : ∀ c ∈ W, digB c = true) (hF : ∀ c ∈ F, digB c = true) (hS : Spells S x)
    (h0 : -1073741824 ≤ x) (h1 : x ≤ 1073741824) (hl : W.length + F.length ≤ 1073741824) :
    Calls Tryd.prog 10 #[.string ⟨(txt ng W F S).toArray⟩] w fun e w' => e = .returned (.tuple #[dvl (pd ng W F x), .bool true]) ∧ Below w.heap.size w w' := by
  have M := fun w' => parse_any ng W F S x w' hW0 hW hF hS h0 h1 hl
  generalize txt ng W F S = t at *
  generalize pd ng W F x = d at *
  obtain ⟨n, a, b, p⟩ := d
  unfold dvl at *
  simp only at *
  have HM := Hid.mk M
  clear M
  go_enter Tryd.func10, Tryd.ntmps10
  go_wp2_with fail
  refine (HM.out _).mono ?_
  rintro e w1 ⟨rfl, hbl⟩
  obtain ⟨hc, hf⟩ := bcell hbl
  have hz : w.heap.size < w1.heap.size := by have := hbl.size; simp at this; omega
  go_wp2
  refine bodyPost_ret (v := .tuple #[.agg #[.bool n, .string ⟨a.toArray⟩, .string ⟨b.toArray⟩, .int .i64 p], .bool true]) (by simp [results, Tryd.results10, go_sem, hc]) rfl ⟨rfl, ?_⟩
  have hb1 : Below w.heap.size w w1 := Below.trans (by go_grown) (hbl.mono (by simp))
  go_grown
end Go.Proofs.Qxb6003914aDoor
