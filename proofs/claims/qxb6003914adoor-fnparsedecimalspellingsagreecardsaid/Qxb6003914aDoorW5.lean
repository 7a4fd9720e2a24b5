import Derived.Test.Qxb6003914aDoorW4
import Derived.Test.Qxb6003914aDoorShelf
import Derived.Handy
namespace Go.Proofs.Qxb6003914aDoor
open Go.RowKit

/-- The bytes of a text, zeros struck at its left; at its right. -/
def tl (l : List UInt8) : List UInt8 := Lib.trimLeftB l 48
def tr (l : List UInt8) : List UInt8 := Lib.trimRightB l 48
theorem tl_len (l : List UInt8) : (tl l).length ≤ l.length := by
  unfold tl Lib.trimLeftB
  exact (List.dropWhile_suffix _).length_le
theorem tr_len (l : List UInt8) : (tr l).length ≤ l.length := by
  unfold tr Lib.trimRightB
  simpa using (List.dropWhile_suffix (l := l.reverse) (fun x => x == 48)).length_le
theorem tl_nil : tl [] = [] := rfl
theorem tr_nil : tr [] = [] := rfl

theorem trimL (l : List UInt8) (w : World) : Calls Tryd.prog 22 #[.string ⟨l.toArray⟩, .string ⟨#[48]⟩] w fun e w' => e = .returned (.string ⟨(tl l).toArray⟩) ∧ w' = w :=
  Tryd.strings_TrimLeft_one ⟨l.toArray⟩ 48 (by decide) w
theorem trimR (l : List UInt8) (w : World) (h : l.length ≤ 4294967296) : Calls Tryd.prog 23 #[.string ⟨l.toArray⟩, .string ⟨#[48]⟩] w fun e w' => e = .returned (.string ⟨(tr l).toArray⟩) ∧ w' = w :=
  Tryd.strings_TrimRight_one ⟨l.toArray⟩ 48 (by decide) w (by show l.toArray.size ≤ _; simp; omega)

theorem setCell_drewN (w : World) (n : Nat) (a : Addr) (v : Value) : (w.drewN n).setCell a v = (w.setCell a v).drewN n := by
  unfold World.drewN World.setCell
  rfl
/-- What parseDecimal makes of the sign, the digits and the exponent. -/
def pd (ng : Bool) (W F : List UInt8) (x : Int) : Bool × List UInt8 × List UInt8 × Int :=
  if (tl W).isEmpty then
    (if (tr (tl F)).isEmpty then (false, [], [], 0) else (ng, [], tr (tl F), (tl F).length - F.length + x))
  else
    (if (tr F).isEmpty then (ng, tr (tl W), [], (tl W).length + x) else (ng, tl W, tr F, (tl W).length + x))
/-- A decimal as the model has it. -/
def dvl (d : Bool × List UInt8 × List UInt8 × Int) : Value := .agg #[.bool d.1, .string ⟨d.2.1.toArray⟩, .string ⟨d.2.2.1.toArray⟩, .int .i64 d.2.2.2]

theorem tl_head (l : List UInt8) (a : UInt8) (t : List UInt8) (h : tl l = a :: t) : a ≠ 48 := by
  induction l with
  | nil => simp [tl, Lib.trimLeftB] at h
  | cons b l ih =>
    unfold tl Lib.trimLeftB at h ih
    rw [List.dropWhile_cons] at h
    split at h
    · exact ih h
    · rename_i hb
      cases h
      simpa using hb
theorem dw_nil (p : UInt8 → Bool) : ∀ (l : List UInt8), l.dropWhile p = [] → ∀ x ∈ l, p x = true
  | [], _, _, hx => by simp at hx
  | a :: l, h, x, hx => by
    rw [List.dropWhile_cons] at h
    split at h
    · rename_i ha
      rcases List.mem_cons.1 hx with rfl | hx
      · exact ha
      · exact dw_nil p l h x hx
    · cases h
theorem tr_ne (a : UInt8) (t : List UInt8) (h : a ≠ 48) : tr (a :: t) ≠ [] := by
  unfold tr Lib.trimRightB
  intro hc
  have h2 : ∀ x ∈ (a :: t).reverse, (x == 48) = true := by
    exact dw_nil _ _ (List.reverse_eq_nil_iff.1 hc)
  have := h2 a (by simp)
  exact h (by simpa using this)
theorem tr_tl_ne (l : List UInt8) (h : (tl l).isEmpty = false) : (tr (tl l)).isEmpty = false := by
  cases e : tl l with
  | nil => rw [e] at h; simp at h
  | cons a t =>
    have := tr_ne a t (tl_head l a t e)
    cases e2 : tr (a :: t) with
    | nil => exact absurd e2 this
    | cons _ _ => rfl

set_option maxHeartbeats 1000000 in
theorem pd_pf1 (s s2 s3 s4 E : ByteArray) (W F : List UInt8) (x : Int) (w : World)
    (hs : s.size ≤ 2147483648) (h0 : 0 < s.size) (t45 : ((s[0].toNat : Int) == 45) = false)
    (hW : skipN s.data.toList = W.length) (hW0 : ((W.length : Int) == 0) = false) (hWl : W.length ≤ s.size) (e1 : s.extract 0 W.length = ⟨W.toArray⟩) (e2 : s.extract W.length s.size = s2)
    (h2 : 0 < s2.size) (h2s : s2.size ≤ 2147483648) (t46 : ((s2[0].toNat : Int) == 46) = true) (e3 : s2.extract 1 s2.size = s3) (h3s : s3.size ≤ 2147483648)
    (hF : skipN s3.data.toList = F.length) (hF0 : ((F.length : Int) == 0) = false) (hFl : 1 + F.length ≤ s2.size) (e4 : s2.extract 1 (1 + F.length) = ⟨F.toArray⟩) (e5 : s2.extract (1 + F.length) s2.size = s4)
    (h4 : 0 < s4.size) (h4s : s4.size ≤ 2147483648) (t101 : ((s4[0].toNat : Int) == 101) = true) (e6 : s4.extract 1 s4.size = E)
    (_hx0 : -1073741824 ≤ x) (_hx1 : x ≤ 1073741824)
    (HE : Hid (∀ w, Calls Tryd.prog 21 #[.string E] w fun e w' => e = .returned (.tuple #[.int .i64 x, .string ⟨#[]⟩, .bool true]) ∧ ∃ n, w' = w.drewN n))
    (k1 : tl W = []) (k2 : tr (tl F) = []) :
    Calls Tryd.prog 18 #[.string s] w fun e w' => e = .returned (.tuple #[dvl (pd false W F x), .bool true]) ∧ Below w.heap.size w w' := by
  have HP : Hid (dvl (pd false W F x) = .agg #[.bool false, .string ⟨#[]⟩, .string ⟨#[]⟩, .int .i64 0]) := by
    show _ = _
    simp [dvl, pd, k1, k2]
  have HW : Hid (skipN s.data.toList = W.length) := hW
  have lW := tl_len W
  have HF : Hid (skipN s3.data.toList = F.length) := hF
  have lF := tl_len F
  have K1 : Hid (tl W = []) := k1
  have K2 : Hid (tr (tl F) = []) := k2
  clear hW hF k1 k2
  have hdn : ∀ (w : World) (n : Nat) (a : Addr) (v : Value), (w.drewN n).setCell a v = (w.setCell a v).drewN n := setCell_drewN
  go_enter Tryd.func18, Tryd.ntmps18
  go_wp2_with fail
  refine (skip_any _ _ (by unfold maxLen; omega)).mono ?_
  rintro e w' ⟨rfl, rfl⟩
  rw [HW.out]
  go_wp2_with fail
  go_quiet (fail)
  go_wp2_with fail
  refine (skip_any _ _ (by unfold maxLen; omega)).mono ?_
  rintro e w' ⟨rfl, rfl⟩
  rw [HF.out]
  go_wp2_with fail
  go_quiet (fail)
  go_wp2_with fail
  refine (HE.out _).mono ?_
  rintro e w' ⟨rfl, n1, rfl⟩
  go_wp2_with fail
  refine (trimL W _).mono ?_
  rintro e w' ⟨rfl, rfl⟩
  rw [K1.out]
  go_wp2_with fail
  refine (trimL F _).mono ?_
  rintro e w' ⟨rfl, rfl⟩
  go_wp2_with fail
  refine (trimR (tl F) _ (by first | omega | simp)).mono ?_
  rintro e w' ⟨rfl, rfl⟩
  rw [K2.out]
  go_wp2_with fail
  refine (trimR [] _ (by simp)).mono ?_
  rintro e w' ⟨rfl, rfl⟩
  rw [tr_nil]
  go_wp2
  refine bodyPost_ret (v := .tuple #[.agg #[.bool false, .string ⟨#[]⟩, .string ⟨#[]⟩, .int .i64 0], .bool true]) (by simp [results, Tryd.results18, go_sem]) rfl ⟨by rw [HP.out], ?_⟩
  go_grown
  all_goals exact below_drewN (((Below.refl _ w).alloc (Nat.le_refl _) _).alloc (by simp) _) _

set_option maxHeartbeats 1000000 in
theorem pd_pf2 (s s2 s3 s4 E : ByteArray) (W F : List UInt8) (x : Int) (w : World)
    (hs : s.size ≤ 2147483648) (h0 : 0 < s.size) (t45 : ((s[0].toNat : Int) == 45) = false)
    (hW : skipN s.data.toList = W.length) (hW0 : ((W.length : Int) == 0) = false) (hWl : W.length ≤ s.size) (e1 : s.extract 0 W.length = ⟨W.toArray⟩) (e2 : s.extract W.length s.size = s2)
    (h2 : 0 < s2.size) (h2s : s2.size ≤ 2147483648) (t46 : ((s2[0].toNat : Int) == 46) = true) (e3 : s2.extract 1 s2.size = s3) (h3s : s3.size ≤ 2147483648)
    (hF : skipN s3.data.toList = F.length) (hF0 : ((F.length : Int) == 0) = false) (hFl : 1 + F.length ≤ s2.size) (e4 : s2.extract 1 (1 + F.length) = ⟨F.toArray⟩) (e5 : s2.extract (1 + F.length) s2.size = s4)
    (h4 : 0 < s4.size) (h4s : s4.size ≤ 2147483648) (t101 : ((s4[0].toNat : Int) == 101) = true) (e6 : s4.extract 1 s4.size = E)
    (_hx0 : -1073741824 ≤ x) (_hx1 : x ≤ 1073741824)
    (HE : Hid (∀ w, Calls Tryd.prog 21 #[.string E] w fun e w' => e = .returned (.tuple #[.int .i64 x, .string ⟨#[]⟩, .bool true]) ∧ ∃ n, w' = w.drewN n))
    (k1 : tl W = []) (k2 : (tr (tl F)).isEmpty = false) :
    Calls Tryd.prog 18 #[.string s] w fun e w' => e = .returned (.tuple #[dvl (pd false W F x), .bool true]) ∧ Below w.heap.size w w' := by
  have HP : Hid (dvl (pd false W F x) = .agg #[.bool false, .string ⟨#[]⟩, .string ⟨(tr (tl F)).toArray⟩, .int .i64 ((tl F).length - F.length + x)]) := by
    show _ = _
    simp [dvl, pd, k1, k2]
  have HW : Hid (skipN s.data.toList = W.length) := hW
  have lW := tl_len W
  have HF : Hid (skipN s3.data.toList = F.length) := hF
  have lF := tl_len F
  have K1 : Hid (tl W = []) := k1
  clear hW hF k1
  have hdn : ∀ (w : World) (n : Nat) (a : Addr) (v : Value), (w.drewN n).setCell a v = (w.setCell a v).drewN n := setCell_drewN
  go_enter Tryd.func18, Tryd.ntmps18
  go_wp2_with fail
  refine (skip_any _ _ (by unfold maxLen; omega)).mono ?_
  rintro e w' ⟨rfl, rfl⟩
  rw [HW.out]
  go_wp2_with fail
  go_quiet (fail)
  go_wp2_with fail
  refine (skip_any _ _ (by unfold maxLen; omega)).mono ?_
  rintro e w' ⟨rfl, rfl⟩
  rw [HF.out]
  go_wp2_with fail
  go_quiet (fail)
  go_wp2_with fail
  refine (HE.out _).mono ?_
  rintro e w' ⟨rfl, n1, rfl⟩
  go_wp2_with fail
  refine (trimL W _).mono ?_
  rintro e w' ⟨rfl, rfl⟩
  rw [K1.out]
  go_wp2_with fail
  refine (trimL F _).mono ?_
  rintro e w' ⟨rfl, rfl⟩
  go_wp2_with fail
  refine (trimR (tl F) _ (by first | omega | simp)).mono ?_
  rintro e w' ⟨rfl, rfl⟩
  go_wp2
  refine bodyPost_ret (v := .tuple #[.agg #[.bool false, .string ⟨#[]⟩, .string ⟨(tr (tl F)).toArray⟩, .int .i64 ((tl F).length - F.length + x)], .bool true]) (by simp [results, Tryd.results18, go_sem]) rfl ⟨by rw [HP.out], ?_⟩
  go_grown
  all_goals exact below_drewN (((Below.refl _ w).alloc (Nat.le_refl _) _).alloc (by simp) _) _

set_option maxHeartbeats 1000000 in
theorem pd_pf3 (s s2 s3 s4 E : ByteArray) (W F : List UInt8) (x : Int) (w : World)
    (hs : s.size ≤ 2147483648) (h0 : 0 < s.size) (t45 : ((s[0].toNat : Int) == 45) = false)
    (hW : skipN s.data.toList = W.length) (hW0 : ((W.length : Int) == 0) = false) (hWl : W.length ≤ s.size) (e1 : s.extract 0 W.length = ⟨W.toArray⟩) (e2 : s.extract W.length s.size = s2)
    (h2 : 0 < s2.size) (h2s : s2.size ≤ 2147483648) (t46 : ((s2[0].toNat : Int) == 46) = true) (e3 : s2.extract 1 s2.size = s3) (h3s : s3.size ≤ 2147483648)
    (hF : skipN s3.data.toList = F.length) (hF0 : ((F.length : Int) == 0) = false) (hFl : 1 + F.length ≤ s2.size) (e4 : s2.extract 1 (1 + F.length) = ⟨F.toArray⟩) (e5 : s2.extract (1 + F.length) s2.size = s4)
    (h4 : 0 < s4.size) (h4s : s4.size ≤ 2147483648) (t101 : ((s4[0].toNat : Int) == 101) = true) (e6 : s4.extract 1 s4.size = E)
    (_hx0 : -1073741824 ≤ x) (_hx1 : x ≤ 1073741824)
    (HE : Hid (∀ w, Calls Tryd.prog 21 #[.string E] w fun e w' => e = .returned (.tuple #[.int .i64 x, .string ⟨#[]⟩, .bool true]) ∧ ∃ n, w' = w.drewN n))
    (k1 : (tl W).isEmpty = false) (k2 : tr F = []) :
    Calls Tryd.prog 18 #[.string s] w fun e w' => e = .returned (.tuple #[dvl (pd false W F x), .bool true]) ∧ Below w.heap.size w w' := by
  have HP : Hid (dvl (pd false W F x) = .agg #[.bool false, .string ⟨(tr (tl W)).toArray⟩, .string ⟨#[]⟩, .int .i64 ((tl W).length + x)]) := by
    show _ = _
    simp [dvl, pd, k1, k2]
  have HW : Hid (skipN s.data.toList = W.length) := hW
  have lW := tl_len W
  have HF : Hid (skipN s3.data.toList = F.length) := hF
  have lF := tl_len F
  have k3 := tr_tl_ne W k1
  have K2 : Hid (tr F = []) := k2
  clear hW hF k2
  have hdn : ∀ (w : World) (n : Nat) (a : Addr) (v : Value), (w.drewN n).setCell a v = (w.setCell a v).drewN n := setCell_drewN
  go_enter Tryd.func18, Tryd.ntmps18
  go_wp2_with fail
  refine (skip_any _ _ (by unfold maxLen; omega)).mono ?_
  rintro e w' ⟨rfl, rfl⟩
  rw [HW.out]
  go_wp2_with fail
  go_quiet (fail)
  go_wp2_with fail
  refine (skip_any _ _ (by unfold maxLen; omega)).mono ?_
  rintro e w' ⟨rfl, rfl⟩
  rw [HF.out]
  go_wp2_with fail
  go_quiet (fail)
  go_wp2_with fail
  refine (HE.out _).mono ?_
  rintro e w' ⟨rfl, n1, rfl⟩
  go_wp2_with fail
  refine (trimL W _).mono ?_
  rintro e w' ⟨rfl, rfl⟩
  go_wp2_with fail
  refine (trimR F _ (by first | omega | simp)).mono ?_
  rintro e w' ⟨rfl, rfl⟩
  rw [K2.out]
  go_wp2_with fail
  refine (trimR (tl W) _ (by omega)).mono ?_
  rintro e w' ⟨rfl, rfl⟩
  go_wp2
  refine bodyPost_ret (v := .tuple #[.agg #[.bool false, .string ⟨(tr (tl W)).toArray⟩, .string ⟨#[]⟩, .int .i64 ((tl W).length + x)], .bool true]) (by simp [results, Tryd.results18, go_sem]) rfl ⟨by rw [HP.out], ?_⟩
  go_grown
  all_goals exact below_drewN (((Below.refl _ w).alloc (Nat.le_refl _) _).alloc (by simp) _) _

set_option maxHeartbeats 1000000 in
theorem pd_pf4 (s s2 s3 s4 E : ByteArray) (W F : List UInt8) (x : Int) (w : World)
    (hs : s.size ≤ 2147483648) (h0 : 0 < s.size) (t45 : ((s[0].toNat : Int) == 45) = false)
    (hW : skipN s.data.toList = W.length) (hW0 : ((W.length : Int) == 0) = false) (hWl : W.length ≤ s.size) (e1 : s.extract 0 W.length = ⟨W.toArray⟩) (e2 : s.extract W.length s.size = s2)
    (h2 : 0 < s2.size) (h2s : s2.size ≤ 2147483648) (t46 : ((s2[0].toNat : Int) == 46) = true) (e3 : s2.extract 1 s2.size = s3) (h3s : s3.size ≤ 2147483648)
    (hF : skipN s3.data.toList = F.length) (hF0 : ((F.length : Int) == 0) = false) (hFl : 1 + F.length ≤ s2.size) (e4 : s2.extract 1 (1 + F.length) = ⟨F.toArray⟩) (e5 : s2.extract (1 + F.length) s2.size = s4)
    (h4 : 0 < s4.size) (h4s : s4.size ≤ 2147483648) (t101 : ((s4[0].toNat : Int) == 101) = true) (e6 : s4.extract 1 s4.size = E)
    (_hx0 : -1073741824 ≤ x) (_hx1 : x ≤ 1073741824)
    (HE : Hid (∀ w, Calls Tryd.prog 21 #[.string E] w fun e w' => e = .returned (.tuple #[.int .i64 x, .string ⟨#[]⟩, .bool true]) ∧ ∃ n, w' = w.drewN n))
    (k1 : (tl W).isEmpty = false) (k2 : (tr F).isEmpty = false) :
    Calls Tryd.prog 18 #[.string s] w fun e w' => e = .returned (.tuple #[dvl (pd false W F x), .bool true]) ∧ Below w.heap.size w w' := by
  have HP : Hid (dvl (pd false W F x) = .agg #[.bool false, .string ⟨(tl W).toArray⟩, .string ⟨(tr F).toArray⟩, .int .i64 ((tl W).length + x)]) := by
    show _ = _
    simp [dvl, pd, k1, k2]
  have HW : Hid (skipN s.data.toList = W.length) := hW
  have lW := tl_len W
  have HF : Hid (skipN s3.data.toList = F.length) := hF
  have lF := tl_len F
  clear hW hF
  have hdn : ∀ (w : World) (n : Nat) (a : Addr) (v : Value), (w.drewN n).setCell a v = (w.setCell a v).drewN n := setCell_drewN
  go_enter Tryd.func18, Tryd.ntmps18
  go_wp2_with fail
  refine (skip_any _ _ (by unfold maxLen; omega)).mono ?_
  rintro e w' ⟨rfl, rfl⟩
  rw [HW.out]
  go_wp2_with fail
  go_quiet (fail)
  go_wp2_with fail
  refine (skip_any _ _ (by unfold maxLen; omega)).mono ?_
  rintro e w' ⟨rfl, rfl⟩
  rw [HF.out]
  go_wp2_with fail
  go_quiet (fail)
  go_wp2_with fail
  refine (HE.out _).mono ?_
  rintro e w' ⟨rfl, n1, rfl⟩
  go_wp2_with fail
  refine (trimL W _).mono ?_
  rintro e w' ⟨rfl, rfl⟩
  go_wp2_with fail
  refine (trimR F _ (by first | omega | simp)).mono ?_
  rintro e w' ⟨rfl, rfl⟩
  go_wp2
  refine bodyPost_ret (v := .tuple #[.agg #[.bool false, .string ⟨(tl W).toArray⟩, .string ⟨(tr F).toArray⟩, .int .i64 ((tl W).length + x)], .bool true]) (by simp [results, Tryd.results18, go_sem]) rfl ⟨by rw [HP.out], ?_⟩
  go_grown
  all_goals exact below_drewN (((Below.refl _ w).alloc (Nat.le_refl _) _).alloc (by simp) _) _

set_option maxHeartbeats 1000000 in
theorem pd_pi1 (s s2 E : ByteArray) (W : List UInt8) (x : Int) (w : World)
    (hs : s.size ≤ 2147483648) (h0 : 0 < s.size) (t45 : ((s[0].toNat : Int) == 45) = false)
    (hW : skipN s.data.toList = W.length) (hW0 : ((W.length : Int) == 0) = false) (hWl : W.length ≤ s.size) (e1 : s.extract 0 W.length = ⟨W.toArray⟩) (e2 : s.extract W.length s.size = s2)
    (h2 : 0 < s2.size) (h2s : s2.size ≤ 2147483648) (t46 : ((s2[0].toNat : Int) == 46) = false) (t101 : ((s2[0].toNat : Int) == 101) = true) (e6 : s2.extract 1 s2.size = E)
    (_hx0 : -1073741824 ≤ x) (_hx1 : x ≤ 1073741824)
    (HE : Hid (∀ w, Calls Tryd.prog 21 #[.string E] w fun e w' => e = .returned (.tuple #[.int .i64 x, .string ⟨#[]⟩, .bool true]) ∧ ∃ n, w' = w.drewN n))
    (k1 : tl W = []) :
    Calls Tryd.prog 18 #[.string s] w fun e w' => e = .returned (.tuple #[dvl (pd false W [] x), .bool true]) ∧ Below w.heap.size w w' := by
  have HP : Hid (dvl (pd false W [] x) = .agg #[.bool false, .string ⟨#[]⟩, .string ⟨#[]⟩, .int .i64 0]) := by
    show _ = _
    simp [dvl, pd, k1, tl_nil, tr_nil]
  have HW : Hid (skipN s.data.toList = W.length) := hW
  have lW := tl_len W
  have K1 : Hid (tl W = []) := k1
  clear hW k1
  have hdn : ∀ (w : World) (n : Nat) (a : Addr) (v : Value), (w.drewN n).setCell a v = (w.setCell a v).drewN n := setCell_drewN
  go_enter Tryd.func18, Tryd.ntmps18
  go_wp2_with fail
  refine (skip_any _ _ (by unfold maxLen; omega)).mono ?_
  rintro e w' ⟨rfl, rfl⟩
  rw [HW.out]
  go_wp2_with fail
  go_quiet (fail)
  go_wp2_with fail
  refine (HE.out _).mono ?_
  rintro e w' ⟨rfl, n1, rfl⟩
  go_wp2_with fail
  refine (trimL W _).mono ?_
  rintro e w' ⟨rfl, rfl⟩
  rw [K1.out]
  go_wp2_with fail
  refine (trimL [] _).mono ?_
  rintro e w' ⟨rfl, rfl⟩
  rw [tl_nil]
  go_wp2_with fail
  refine (trimR [] _ (by first | omega | simp)).mono ?_
  rintro e w' ⟨rfl, rfl⟩
  rw [tr_nil]
  go_wp2_with fail
  refine (trimR [] _ (by simp)).mono ?_
  rintro e w' ⟨rfl, rfl⟩
  rw [tr_nil]
  go_wp2
  refine bodyPost_ret (v := .tuple #[.agg #[.bool false, .string ⟨#[]⟩, .string ⟨#[]⟩, .int .i64 0], .bool true]) (by simp [results, Tryd.results18, go_sem]) rfl ⟨by rw [HP.out], ?_⟩
  go_grown
  all_goals exact below_drewN (((Below.refl _ w).alloc (Nat.le_refl _) _).alloc (by simp) _) _

set_option maxHeartbeats 1000000 in
theorem pd_pi3 (s s2 E : ByteArray) (W : List UInt8) (x : Int) (w : World)
    (hs : s.size ≤ 2147483648) (h0 : 0 < s.size) (t45 : ((s[0].toNat : Int) == 45) = false)
    (hW : skipN s.data.toList = W.length) (hW0 : ((W.length : Int) == 0) = false) (hWl : W.length ≤ s.size) (e1 : s.extract 0 W.length = ⟨W.toArray⟩) (e2 : s.extract W.length s.size = s2)
    (h2 : 0 < s2.size) (h2s : s2.size ≤ 2147483648) (t46 : ((s2[0].toNat : Int) == 46) = false) (t101 : ((s2[0].toNat : Int) == 101) = true) (e6 : s2.extract 1 s2.size = E)
    (_hx0 : -1073741824 ≤ x) (_hx1 : x ≤ 1073741824)
    (HE : Hid (∀ w, Calls Tryd.prog 21 #[.string E] w fun e w' => e = .returned (.tuple #[.int .i64 x, .string ⟨#[]⟩, .bool true]) ∧ ∃ n, w' = w.drewN n))
    (k1 : (tl W).isEmpty = false) :
    Calls Tryd.prog 18 #[.string s] w fun e w' => e = .returned (.tuple #[dvl (pd false W [] x), .bool true]) ∧ Below w.heap.size w w' := by
  have HP : Hid (dvl (pd false W [] x) = .agg #[.bool false, .string ⟨(tr (tl W)).toArray⟩, .string ⟨#[]⟩, .int .i64 ((tl W).length + x)]) := by
    show _ = _
    simp [dvl, pd, k1, tr_nil]
  have HW : Hid (skipN s.data.toList = W.length) := hW
  have lW := tl_len W
  have k3 := tr_tl_ne W k1
  clear hW
  have hdn : ∀ (w : World) (n : Nat) (a : Addr) (v : Value), (w.drewN n).setCell a v = (w.setCell a v).drewN n := setCell_drewN
  go_enter Tryd.func18, Tryd.ntmps18
  go_wp2_with fail
  refine (skip_any _ _ (by unfold maxLen; omega)).mono ?_
  rintro e w' ⟨rfl, rfl⟩
  rw [HW.out]
  go_wp2_with fail
  go_quiet (fail)
  go_wp2_with fail
  refine (HE.out _).mono ?_
  rintro e w' ⟨rfl, n1, rfl⟩
  go_wp2_with fail
  refine (trimL W _).mono ?_
  rintro e w' ⟨rfl, rfl⟩
  go_wp2_with fail
  refine (trimR [] _ (by first | omega | simp)).mono ?_
  rintro e w' ⟨rfl, rfl⟩
  rw [tr_nil]
  go_wp2_with fail
  refine (trimR (tl W) _ (by omega)).mono ?_
  rintro e w' ⟨rfl, rfl⟩
  go_wp2
  refine bodyPost_ret (v := .tuple #[.agg #[.bool false, .string ⟨(tr (tl W)).toArray⟩, .string ⟨#[]⟩, .int .i64 ((tl W).length + x)], .bool true]) (by simp [results, Tryd.results18, go_sem]) rfl ⟨by rw [HP.out], ?_⟩
  go_grown
  all_goals exact below_drewN (((Below.refl _ w).alloc (Nat.le_refl _) _).alloc (by simp) _) _
end Go.Proofs.Qxb6003914aDoor
