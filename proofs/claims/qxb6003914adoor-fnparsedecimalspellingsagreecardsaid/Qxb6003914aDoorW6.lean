import Derived.Test.Qxb6003914aDoorW5
namespace Go.Proofs.Qxb6003914aDoor
open Go.RowKit

set_option maxHeartbeats 1000000 in
theorem pd_nf1 (s s1 s2 s3 s4 E : ByteArray) (W F : List UInt8) (x : Int) (w : World)
    (hs0 : s.size ≤ 2147483648) (h00 : 0 < s.size) (t45 : ((s[0].toNat : Int) == 45) = true) (e0 : s.extract 1 s.size = s1) (hs : s1.size ≤ 2147483648)
    (hW : skipN s1.data.toList = W.length) (hW0 : ((W.length : Int) == 0) = false) (hWl : W.length ≤ s1.size) (e1 : s1.extract 0 W.length = ⟨W.toArray⟩) (e2 : s1.extract W.length s1.size = s2)
    (h2 : 0 < s2.size) (h2s : s2.size ≤ 2147483648) (t46 : ((s2[0].toNat : Int) == 46) = true) (e3 : s2.extract 1 s2.size = s3) (h3s : s3.size ≤ 2147483648)
    (hF : skipN s3.data.toList = F.length) (hF0 : ((F.length : Int) == 0) = false) (hFl : 1 + F.length ≤ s2.size) (e4 : s2.extract 1 (1 + F.length) = ⟨F.toArray⟩) (e5 : s2.extract (1 + F.length) s2.size = s4)
    (h4 : 0 < s4.size) (h4s : s4.size ≤ 2147483648) (t101 : ((s4[0].toNat : Int) == 101) = true) (e6 : s4.extract 1 s4.size = E)
    (_hx0 : -1073741824 ≤ x) (_hx1 : x ≤ 1073741824)
    (HE : Hid (∀ w, Calls Tryd.prog 21 #[.string E] w fun e w' => e = .returned (.tuple #[.int .i64 x, .string ⟨#[]⟩, .bool true]) ∧ ∃ n, w' = w.drewN n))
    (k1 : tl W = []) (k2 : tr (tl F) = []) :
    Calls Tryd.prog 18 #[.string s] w fun e w' => e = .returned (.tuple #[dvl (pd true W F x), .bool true]) ∧ Below w.heap.size w w' := by
  have HP : Hid (dvl (pd true W F x) = .agg #[.bool false, .string ⟨#[]⟩, .string ⟨#[]⟩, .int .i64 0]) := by
    show _ = _
    simp [dvl, pd, k1, k2]
  have HW : Hid (skipN s1.data.toList = W.length) := hW
  have lW := tl_len W
  have HF : Hid (skipN s3.data.toList = F.length) := hF
  have lF := tl_len F
  have K1 : Hid (tl W = []) := k1
  have K2 : Hid (tr (tl F) = []) := k2
  clear hW hF k1 k2
  have hdn : ∀ (w : World) (n : Nat) (a : Addr) (v : Value), (w.drewN n).setCell a v = (w.setCell a v).drewN n := setCell_drewN
  go_enter Tryd.func18, Tryd.ntmps18
  go_wp2_with fail
  refine (skip_any _ _ (by unfold maxLen; omega)).mono ?_
  rintro e w' ⟨rfl, rfl⟩
  rw [HW.out]
  go_wp2_with fail
  go_quiet (fail)
  go_wp2_with fail
  refine (skip_any _ _ (by unfold maxLen; omega)).mono ?_
  rintro e w' ⟨rfl, rfl⟩
  rw [HF.out]
  go_wp2_with fail
  go_quiet (fail)
  go_wp2_with fail
  refine (HE.out _).mono ?_
  rintro e w' ⟨rfl, n1, rfl⟩
  go_wp2_with fail
  refine (trimL W _).mono ?_
  rintro e w' ⟨rfl, rfl⟩
  rw [K1.out]
  go_wp2_with fail
  refine (trimL F _).mono ?_
  rintro e w' ⟨rfl, rfl⟩
  go_wp2_with fail
  refine (trimR (tl F) _ (by first | omega | simp)).mono ?_
  rintro e w' ⟨rfl, rfl⟩
  rw [K2.out]
  go_wp2_with fail
  refine (trimR [] _ (by simp)).mono ?_
  rintro e w' ⟨rfl, rfl⟩
  rw [tr_nil]
  go_wp2
  refine bodyPost_ret (v := .tuple #[.agg #[.bool false, .string ⟨#[]⟩, .string ⟨#[]⟩, .int .i64 0], .bool true]) (by simp [results, Tryd.results18, go_sem]) rfl ⟨by rw [HP.out], ?_⟩
  go_grown
  all_goals exact below_drewN (((Below.refl _ w).alloc (Nat.le_refl _) _).alloc (by simp) _) _

set_option maxHeartbeats 1000000 in
theorem pd_nf2 (s s1 s2 s3 s4 E : ByteArray) (W F : List UInt8) (x : Int) (w : World)
    (hs0 : s.size ≤ 2147483648) (h00 : 0 < s.size) (t45 : ((s[0].toNat : Int) == 45) = true) (e0 : s.extract 1 s.size = s1) (hs : s1.size ≤ 2147483648)
    (hW : skipN s1.data.toList = W.length) (hW0 : ((W.length : Int) == 0) = false) (hWl : W.length ≤ s1.size) (e1 : s1.extract 0 W.length = ⟨W.toArray⟩) (e2 : s1.extract W.length s1.size = s2)
    (h2 : 0 < s2.size) (h2s : s2.size ≤ 2147483648) (t46 : ((s2[0].toNat : Int) == 46) = true) (e3 : s2.extract 1 s2.size = s3) (h3s : s3.size ≤ 2147483648)
    (hF : skipN s3.data.toList = F.length) (hF0 : ((F.length : Int) == 0) = false) (hFl : 1 + F.length ≤ s2.size) (e4 : s2.extract 1 (1 + F.length) = ⟨F.toArray⟩) (e5 : s2.extract (1 + F.length) s2.size = s4)
    (h4 : 0 < s4.size) (h4s : s4.size ≤ 2147483648) (t101 : ((s4[0].toNat : Int) == 101) = true) (e6 : s4.extract 1 s4.size = E)
    (_hx0 : -1073741824 ≤ x) (_hx1 : x ≤ 1073741824)
    (HE : Hid (∀ w, Calls Tryd.prog 21 #[.string E] w fun e w' => e = .returned (.tuple #[.int .i64 x, .string ⟨#[]⟩, .bool true]) ∧ ∃ n, w' = w.drewN n))
    (k1 : tl W = []) (k2 : (tr (tl F)).isEmpty = false) :
    Calls Tryd.prog 18 #[.string s] w fun e w' => e = .returned (.tuple #[dvl (pd true W F x), .bool true]) ∧ Below w.heap.size w w' := by
  have HP : Hid (dvl (pd true W F x) = .agg #[.bool true, .string ⟨#[]⟩, .string ⟨(tr (tl F)).toArray⟩, .int .i64 ((tl F).length - F.length + x)]) := by
    show _ = _
    simp [dvl, pd, k1, k2]
  have HW : Hid (skipN s1.data.toList = W.length) := hW
  have lW := tl_len W
  have HF : Hid (skipN s3.data.toList = F.length) := hF
  have lF := tl_len F
  have K1 : Hid (tl W = []) := k1
  clear hW hF k1
  have hdn : ∀ (w : World) (n : Nat) (a : Addr) (v : Value), (w.drewN n).setCell a v = (w.setCell a v).drewN n := setCell_drewN
  go_enter Tryd.func18, Tryd.ntmps18
  go_wp2_with fail
  refine (skip_any _ _ (by unfold maxLen; omega)).mono ?_
  rintro e w' ⟨rfl, rfl⟩
  rw [HW.out]
  go_wp2_with fail
  go_quiet (fail)
  go_wp2_with fail
  refine (skip_any _ _ (by unfold maxLen; omega)).mono ?_
  rintro e w' ⟨rfl, rfl⟩
  rw [HF.out]
  go_wp2_with fail
  go_quiet (fail)
  go_wp2_with fail
  refine (HE.out _).mono ?_
  rintro e w' ⟨rfl, n1, rfl⟩
  go_wp2_with fail
  refine (trimL W _).mono ?_
  rintro e w' ⟨rfl, rfl⟩
  rw [K1.out]
  go_wp2_with fail
  refine (trimL F _).mono ?_
  rintro e w' ⟨rfl, rfl⟩
  go_wp2_with fail
  refine (trimR (tl F) _ (by first | omega | simp)).mono ?_
  rintro e w' ⟨rfl, rfl⟩
  go_wp2
  refine bodyPost_ret (v := .tuple #[.agg #[.bool true, .string ⟨#[]⟩, .string ⟨(tr (tl F)).toArray⟩, .int .i64 ((tl F).length - F.length + x)], .bool true]) (by simp [results, Tryd.results18, go_sem]) rfl ⟨by rw [HP.out], ?_⟩
  go_grown
  all_goals exact below_drewN (((Below.refl _ w).alloc (Nat.le_refl _) _).alloc (by simp) _) _

set_option maxHeartbeats 1000000 in
theorem pd_nf3 (s s1 s2 s3 s4 E : ByteArray) (W F : List UInt8) (x : Int) (w : World)
    (hs0 : s.size ≤ 2147483648) (h00 : 0 < s.size) (t45 : ((s[0].toNat : Int) == 45) = true) (e0 : s.extract 1 s.size = s1) (hs : s1.size ≤ 2147483648)
    (hW : skipN s1.data.toList = W.length) (hW0 : ((W.length : Int) == 0) = false) (hWl : W.length ≤ s1.size) (e1 : s1.extract 0 W.length = ⟨W.toArray⟩) (e2 : s1.extract W.length s1.size = s2)
    (h2 : 0 < s2.size) (h2s : s2.size ≤ 2147483648) (t46 : ((s2[0].toNat : Int) == 46) = true) (e3 : s2.extract 1 s2.size = s3) (h3s : s3.size ≤ 2147483648)
    (hF : skipN s3.data.toList = F.length) (hF0 : ((F.length : Int) == 0) = false) (hFl : 1 + F.length ≤ s2.size) (e4 : s2.extract 1 (1 + F.length) = ⟨F.toArray⟩) (e5 : s2.extract (1 + F.length) s2.size = s4)
    (h4 : 0 < s4.size) (h4s : s4.size ≤ 2147483648) (t101 : ((s4[0].toNat : Int) == 101) = true) (e6 : s4.extract 1 s4.size = E)
    (_hx0 : -1073741824 ≤ x) (_hx1 : x ≤ 1073741824)
    (HE : Hid (∀ w, Calls Tryd.prog 21 #[.string E] w fun e w' => e = .returned (.tuple #[.int .i64 x, .string ⟨#[]⟩, .bool true]) ∧ ∃ n, w' = w.drewN n))
    (k1 : (tl W).isEmpty = false) (k2 : tr F = []) :
    Calls Tryd.prog 18 #[.string s] w fun e w' => e = .returned (.tuple #[dvl (pd true W F x), .bool true]) ∧ Below w.heap.size w w' := by
  have HP : Hid (dvl (pd true W F x) = .agg #[.bool true, .string ⟨(tr (tl W)).toArray⟩, .string ⟨#[]⟩, .int .i64 ((tl W).length + x)]) := by
    show _ = _
    simp [dvl, pd, k1, k2]
  have HW : Hid (skipN s1.data.toList = W.length) := hW
  have lW := tl_len W
  have HF : Hid (skipN s3.data.toList = F.length) := hF
  have lF := tl_len F
  have k3 := tr_tl_ne W k1
  have K2 : Hid (tr F = []) := k2
  clear hW hF k2
  have hdn : ∀ (w : World) (n : Nat) (a : Addr) (v : Value), (w.drewN n).setCell a v = (w.setCell a v).drewN n := setCell_drewN
  go_enter Tryd.func18, Tryd.ntmps18
  go_wp2_with fail
  refine (skip_any _ _ (by unfold maxLen; omega)).mono ?_
  rintro e w' ⟨rfl, rfl⟩
  rw [HW.out]
  go_wp2_with fail
  go_quiet (fail)
  go_wp2_with fail
  refine (skip_any _ _ (by unfold maxLen; omega)).mono ?_
  rintro e w' ⟨rfl, rfl⟩
  rw [HF.out]
  go_wp2_with fail
  go_quiet (fail)
  go_wp2_with fail
  refine (HE.out _).mono ?_
  rintro e w' ⟨rfl, n1, rfl⟩
  go_wp2_with fail
  refine (trimL W _).mono ?_
  rintro e w' ⟨rfl, rfl⟩
  go_wp2_with fail
  refine (trimR F _ (by first | omega | simp)).mono ?_
  rintro e w' ⟨rfl, rfl⟩
  rw [K2.out]
  go_wp2_with fail
  refine (trimR (tl W) _ (by omega)).mono ?_
  rintro e w' ⟨rfl, rfl⟩
  go_wp2
  refine bodyPost_ret (v := .tuple #[.agg #[.bool true, .string ⟨(tr (tl W)).toArray⟩, .string ⟨#[]⟩, .int .i64 ((tl W).length + x)], .bool true]) (by simp [results, Tryd.results18, go_sem]) rfl ⟨by rw [HP.out], ?_⟩
  go_grown
  all_goals exact below_drewN (((Below.refl _ w).alloc (Nat.le_refl _) _).alloc (by simp) _) _

set_option maxHeartbeats 1000000 in
theorem pd_nf4 (s s1 s2 s3 s4 E : ByteArray) (W F : List UInt8) (x : Int) (w : World)
    (hs0 : s.size ≤ 2147483648) (h00 : 0 < s.size) (t45 : ((s[0].toNat : Int) == 45) = true) (e0 : s.extract 1 s.size = s1) (hs : s1.size ≤ 2147483648)
    (hW : skipN s1.data.toList = W.length) (hW0 : ((W.length : Int) == 0) = false) (hWl : W.length ≤ s1.size) (e1 : s1.extract 0 W.length = ⟨W.toArray⟩) (e2 : s1.extract W.length s1.size = s2)
    (h2 : 0 < s2.size) (h2s : s2.size ≤ 2147483648) (t46 : ((s2[0].toNat : Int) == 46) = true) (e3 : s2.extract 1 s2.size = s3) (h3s : s3.size ≤ 2147483648)
    (hF : skipN s3.data.toList = F.length) (hF0 : ((F.length : Int) == 0) = false) (hFl : 1 + F.length ≤ s2.size) (e4 : s2.extract 1 (1 + F.length) = ⟨F.toArray⟩) (e5 : s2.extract (1 + F.length) s2.size = s4)
    (h4 : 0 < s4.size) (h4s : s4.size ≤ 2147483648) (t101 : ((s4[0].toNat : Int) == 101) = true) (e6 : s4.extract 1 s4.size = E)
    (_hx0 : -1073741824 ≤ x) (_hx1 : x ≤ 1073741824)
    (HE : Hid (∀ w, Calls Tryd.prog 21 #[.string E] w fun e w' => e = .returned (.tuple #[.int .i64 x, .string ⟨#[]⟩, .bool true]) ∧ ∃ n, w' = w.drewN n))
    (k1 : (tl W).isEmpty = false) (k2 : (tr F).isEmpty = false) :
    Calls Tryd.prog 18 #[.string s] w fun e w' => e = .returned (.tuple #[dvl (pd true W F x), .bool true]) ∧ Below w.heap.size w w' := by
  have HP : Hid (dvl (pd true W F x) = .agg #[.bool true, .string ⟨(tl W).toArray⟩, .string ⟨(tr F).toArray⟩, .int .i64 ((tl W).length + x)]) := by
    show _ = _
    simp [dvl, pd, k1, k2]
  have HW : Hid (skipN s1.data.toList = W.length) := hW
  have lW := tl_len W
  have HF : Hid (skipN s3.data.toList = F.length) := hF
  have lF := tl_len F
  clear hW hF
  have hdn : ∀ (w : World) (n : Nat) (a : Addr) (v : Value), (w.drewN n).setCell a v = (w.setCell a v).drewN n := setCell_drewN
  go_enter Tryd.func18, Tryd.ntmps18
  go_wp2_with fail
  refine (skip_any _ _ (by unfold maxLen; omega)).mono ?_
  rintro e w' ⟨rfl, rfl⟩
  rw [HW.out]
  go_wp2_with fail
  go_quiet (fail)
  go_wp2_with fail
  refine (skip_any _ _ (by unfold maxLen; omega)).mono ?_
  rintro e w' ⟨rfl, rfl⟩
  rw [HF.out]
  go_wp2_with fail
  go_quiet (fail)
  go_wp2_with fail
  refine (HE.out _).mono ?_
  rintro e w' ⟨rfl, n1, rfl⟩
  go_wp2_with fail
  refine (trimL W _).mono ?_
  rintro e w' ⟨rfl, rfl⟩
  go_wp2_with fail
  refine (trimR F _ (by first | omega | simp)).mono ?_
  rintro e w' ⟨rfl, rfl⟩
  go_wp2
  refine bodyPost_ret (v := .tuple #[.agg #[.bool true, .string ⟨(tl W).toArray⟩, .string ⟨(tr F).toArray⟩, .int .i64 ((tl W).length + x)], .bool true]) (by simp [results, Tryd.results18, go_sem]) rfl ⟨by rw [HP.out], ?_⟩
  go_grown
  all_goals exact below_drewN (((Below.refl _ w).alloc (Nat.le_refl _) _).alloc (by simp) _) _

set_option maxHeartbeats 1000000 in
theorem pd_ni1 (s s1 s2 E : ByteArray) (W : List UInt8) (x : Int) (w : World)
    (hs0 : s.size ≤ 2147483648) (h00 : 0 < s.size) (t45 : ((s[0].toNat : Int) == 45) = true) (e0 : s.extract 1 s.size = s1) (hs : s1.size ≤ 2147483648)
    (hW : skipN s1.data.toList = W.length) (hW0 : ((W.length : Int) == 0) = false) (hWl : W.length ≤ s1.size) (e1 : s1.extract 0 W.length = ⟨W.toArray⟩) (e2 : s1.extract W.length s1.size = s2)
    (h2 : 0 < s2.size) (h2s : s2.size ≤ 2147483648) (t46 : ((s2[0].toNat : Int) == 46) = false) (t101 : ((s2[0].toNat : Int) == 101) = true) (e6 : s2.extract 1 s2.size = E)
    (_hx0 : -1073741824 ≤ x) (_hx1 : x ≤ 1073741824)
    (HE : Hid (∀ w, Calls Tryd.prog 21 #[.string E] w fun e w' => e = .returned (.tuple #[.int .i64 x, .string ⟨#[]⟩, .bool true]) ∧ ∃ n, w' = w.drewN n))
    (k1 : tl W = []) :
    Calls Tryd.prog 18 #[.string s] w fun e w' => e = .returned (.tuple #[dvl (pd true W [] x), .bool true]) ∧ Below w.heap.size w w' := by
  have HP : Hid (dvl (pd true W [] x) = .agg #[.bool false, .string ⟨#[]⟩, .string ⟨#[]⟩, .int .i64 0]) := by
    show _ = _
    simp [dvl, pd, k1, tl_nil, tr_nil]
  have HW : Hid (skipN s1.data.toList = W.length) := hW
  have lW := tl_len W
  have K1 : Hid (tl W = []) := k1
  clear hW k1
  have hdn : ∀ (w : World) (n : Nat) (a : Addr) (v : Value), (w.drewN n).setCell a v = (w.setCell a v).drewN n := setCell_drewN
  go_enter Tryd.func18, Tryd.ntmps18
  go_wp2_with fail
  refine (skip_any _ _ (by unfold maxLen; omega)).mono ?_
  rintro e w' ⟨rfl, rfl⟩
  rw [HW.out]
  go_wp2_with fail
  go_quiet (fail)
  go_wp2_with fail
  refine (HE.out _).mono ?_
  rintro e w' ⟨rfl, n1, rfl⟩
  go_wp2_with fail
  refine (trimL W _).mono ?_
  rintro e w' ⟨rfl, rfl⟩
  rw [K1.out]
  go_wp2_with fail
  refine (trimL [] _).mono ?_
  rintro e w' ⟨rfl, rfl⟩
  rw [tl_nil]
  go_wp2_with fail
  refine (trimR [] _ (by first | omega | simp)).mono ?_
  rintro e w' ⟨rfl, rfl⟩
  rw [tr_nil]
  go_wp2_with fail
  refine (trimR [] _ (by simp)).mono ?_
  rintro e w' ⟨rfl, rfl⟩
  rw [tr_nil]
  go_wp2
  refine bodyPost_ret (v := .tuple #[.agg #[.bool false, .string ⟨#[]⟩, .string ⟨#[]⟩, .int .i64 0], .bool true]) (by simp [results, Tryd.results18, go_sem]) rfl ⟨by rw [HP.out], ?_⟩
  go_grown
  all_goals exact below_drewN (((Below.refl _ w).alloc (Nat.le_refl _) _).alloc (by simp) _) _

set_option maxHeartbeats 1000000 in
theorem pd_ni3 (s s1 s2 E : ByteArray) (W : List UInt8) (x : Int) (w : World)
    (hs0 : s.size ≤ 2147483648) (h00 : 0 < s.size) (t45 : ((s[0].toNat : Int) == 45) = true) (e0 : s.extract 1 s.size = s1) (hs : s1.size ≤ 2147483648)
    (hW : skipN s1.data.toList = W.length) (hW0 : ((W.length : Int) == 0) = false) (hWl : W.length ≤ s1.size) (e1 : s1.extract 0 W.length = ⟨W.toArray⟩) (e2 : s1.extract W.length s1.size = s2)
    (h2 : 0 < s2.size) (h2s : s2.size ≤ 2147483648) (t46 : ((s2[0].toNat : Int) == 46) = false) (t101 : ((s2[0].toNat : Int) == 101) = true) (e6 : s2.extract 1 s2.size = E)
    (_hx0 : -1073741824 ≤ x) (_hx1 : x ≤ 1073741824)
    (HE : Hid (∀ w, Calls Tryd.prog 21 #[.string E] w fun e w' => e = .returned (.tuple #[.int .i64 x, .string ⟨#[]⟩, .bool true]) ∧ ∃ n, w' = w.drewN n))
    (k1 : (tl W).isEmpty = false) :
    Calls Tryd.prog 18 #[.string s] w fun e w' => e = .returned (.tuple #[dvl (pd true W [] x), .bool true]) ∧ Below w.heap.size w w' := by
  have HP : Hid (dvl (pd true W [] x) = .agg #[.bool true, .string ⟨(tr (tl W)).toArray⟩, .string ⟨#[]⟩, .int .i64 ((tl W).length + x)]) := by
    show _ = _
    simp [dvl, pd, k1, tr_nil]
  have HW : Hid (skipN s1.data.toList = W.length) := hW
  have lW := tl_len W
  have k3 := tr_tl_ne W k1
  clear hW
  have hdn : ∀ (w : World) (n : Nat) (a : Addr) (v : Value), (w.drewN n).setCell a v = (w.setCell a v).drewN n := setCell_drewN
  go_enter Tryd.func18, Tryd.ntmps18
  go_wp2_with fail
  refine (skip_any _ _ (by unfold maxLen; omega)).mono ?_
  rintro e w' ⟨rfl, rfl⟩
  rw [HW.out]
  go_wp2_with fail
  go_quiet (fail)
  go_wp2_with fail
  refine (HE.out _).mono ?_
  rintro e w' ⟨rfl, n1, rfl⟩
  go_wp2_with fail
  refine (trimL W _).mono ?_
  rintro e w' ⟨rfl, rfl⟩
  go_wp2_with fail
  refine (trimR [] _ (by first | omega | simp)).mono ?_
  rintro e w' ⟨rfl, rfl⟩
  rw [tr_nil]
  go_wp2_with fail
  refine (trimR (tl W) _ (by omega)).mono ?_
  rintro e w' ⟨rfl, rfl⟩
  go_wp2
  refine bodyPost_ret (v := .tuple #[.agg #[.bool true, .string ⟨(tr (tl W)).toArray⟩, .string ⟨#[]⟩, .int .i64 ((tl W).length + x)], .bool true]) (by simp [results, Tryd.results18, go_sem]) rfl ⟨by rw [HP.out], ?_⟩
  go_grown
  all_goals exact below_drewN (((Below.refl _ w).alloc (Nat.le_refl _) _).alloc (by simp) _) _
end Go.Proofs.Qxb6003914aDoor
