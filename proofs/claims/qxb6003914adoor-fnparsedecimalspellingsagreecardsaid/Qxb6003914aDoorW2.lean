import Derived.Test.Qxb6003914aDoorW1
import Derived.Deep.RegionWith
import Derived.Deep.DeepFit
namespace Go.Proofs.Qxb6003914aDoor
open Go.RowKit

/-- The order of two magnitudes: the points first, then the digits as text. -/
def cmpT : List UInt8 → List UInt8 → Int
  | [], [] => 0
  | [], _ :: _ => -1
  | _ :: _, [] => 1
  | a :: x, b :: y => if a = b then cmpT x y else cmp3 a.toNat b.toNat
def cmpM (p q : Int) (x y : List UInt8) : Int := if p = q then cmpT x y else cmp3 p q

theorem bcell {W w1 : World} (hb : Below W.heap.size W w1) : (∀ b o, b < W.heap.size → w1.cell? ⟨b, o, none⟩ = W.cell? ⟨b, o, none⟩) ∧ (∀ b o, b < W.heap.size → w1.frozen? ⟨b, o, none⟩ = W.frozen? ⟨b, o, none⟩) :=
  ⟨fun b o h => hb.cell (p := ⟨b, o, none⟩) h, fun b o h => hb.frozen (p := ⟨b, o, none⟩) h⟩

set_option maxHeartbeats 400000 in
theorem mag_ne (n1 n2 : Bool) (a b c d : ByteArray) (p q : Int) (w : World) (h : p ≠ q) :
    Calls Tryd.prog 26 #[.agg #[.bool n1, .string a, .string b, .int .i64 p], .agg #[.bool n2, .string c, .string d, .int .i64 q]] w fun e w' =>
      e = .returned (.int .i64 (cmp3 p q)) ∧ Below w.heap.size w w' := by
  have t0 : (p != q) = true := by rw [bne_iff_ne]; exact h
  clear h
  go_enter Tryd.func26, Tryd.ntmps26
  go_wp2_with (go_at_call 25; refine (cmpI_any _ _ _).mono ?_; rintro e w' ⟨rfl, rfl⟩)
  go_ret
  exact ⟨rfl, ((Below.refl _ _).alloc (Nat.le_refl _) _).alloc (by simp) _⟩

theorem cmpT_at : ∀ (x y : List UInt8) (k : Nat), k < x.length → k < y.length → x.take k = y.take k → byteAt x k ≠ byteAt y k → cmpT x y = cmp3 (byteAt x k) (byteAt y k)
  | [], _, _, h, _, _, _ => by simp at h
  | _ :: _, [], _, _, h, _, _ => by simp at h
  | a :: x, b :: y, 0, _, _, _, hne => by
    have e : a ≠ b := fun h => hne (by simp [byteAt, h])
    simp [cmpT, e, byteAt]
  | a :: x, b :: y, k + 1, hx, hy, ht, hne => by
    simp only [List.take_succ_cons, List.cons.injEq] at ht
    obtain ⟨rfl, ht⟩ := ht
    have := cmpT_at x y k (by simpa using hx) (by simpa using hy) ht (by simpa [byteAt] using hne)
    simpa [cmpT, byteAt] using this
theorem cmpT_end : ∀ (x y : List UInt8) (k : Nat), k ≤ x.length → k ≤ y.length → (k = x.length ∨ k = y.length) → x.take k = y.take k → cmpT x y = cmp3 x.length y.length
  | [], [], _, _, _, _, _ => by simp [cmpT, cmp3]
  | [], _ :: _, _, _, _, _, _ => by
    simp [cmpT, cmp3]
  | _ :: _, [], _, _, _, _, _ => by
    simp [cmpT, cmp3]; omega
  | a :: x, b :: y, 0, _, _, h, _ => by simp at h
  | a :: x, b :: y, k + 1, hx, hy, h, ht => by
    simp only [List.take_succ_cons, List.cons.injEq] at ht
    obtain ⟨rfl, ht⟩ := ht
    have := cmpT_end x y k (by simpa using hx) (by simpa using hy) (by simpa using h) ht
    simp only [cmpT, if_true, this, cmp3, List.length_cons]
    have e1 : ((x.length + 1 : Nat) : Int) < ((y.length + 1 : Nat) : Int) ↔ (x.length : Int) < y.length := by omega
    have e2 : ((y.length + 1 : Nat) : Int) < ((x.length + 1 : Nat) : Int) ↔ (y.length : Int) < x.length := by omega
    simp only [e1, e2]
theorem take_grow (x y : List UInt8) (k : Nat) (hx : k < x.length) (hy : k < y.length) (ht : x.take k = y.take k) (he : byteAt x k = byteAt y k) : x.take (k + 1) = y.take (k + 1) := by
  have h1 : x[k] = y[k] := by
    unfold byteAt at he
    rw [List.getD_eq_getElem?_getD, List.getD_eq_getElem?_getD, List.getElem?_eq_getElem hx, List.getElem?_eq_getElem hy] at he
    simp at he
    exact UInt8.toNat_inj.1 (by omega)
  rw [List.take_succ_eq_append_getElem hx, List.take_succ_eq_append_getElem hy, ht, h1]

theorem Hid.mk {p : Prop} (h : p) : Hid p := h

set_option maxHeartbeats 2000000 in
theorem mag_le (n1 n2 : Bool) (a b c d : ByteArray) (p : Int) (w : World) (ha : a.size ≤ 2147483648) (hb : b.size ≤ 2147483648) (hc : c.size ≤ 2147483648) (hd : d.size ≤ 2147483648) (hle : a.size + b.size ≤ c.size + d.size) :
    Calls Tryd.prog 26 #[.agg #[.bool n1, .string a, .string b, .int .i64 p], .agg #[.bool n2, .string c, .string d, .int .i64 p]] w fun e w' =>
      e = .returned (.int .i64 (cmpT (a.data.toList ++ b.data.toList) (c.data.toList ++ d.data.toList))) ∧ Below w.heap.size w w' := by
  have t0 : (p != p) = false := by simp
  have lx : (a.data.toList ++ b.data.toList).length = a.size + b.size := by simp
  have ly : (c.data.toList ++ d.data.toList).length = c.size + d.size := by simp
  have HX : Hid ((a.data.toList ++ b.data.toList).length = a.size + b.size) := lx
  have HY : Hid ((c.data.toList ++ d.data.toList).length = c.size + d.size) := ly
  clear lx ly
  generalize hx : a.data.toList ++ b.data.toList = x at *
  generalize hy : c.data.toList ++ d.data.toList = y at *
  have dx := fun (i : Nat) (w' : World) (hi : i < a.size + b.size) => digit_any n1 a b p i w' ha hb hi
  have dy := fun (i : Nat) (w' : World) (hi : i < c.size + d.size) => digit_any n2 c d p i w' hc hd hi
  rw [hx] at dx
  rw [hy] at dy
  clear hx hy
  have DX := Hid.mk dx
  have DY := Hid.mk dy
  clear dx dy
  go_enter Tryd.func26, Tryd.ntmps26
  go_wp2_with fail
  go_region_with (go_at_call 34; refine (len_any _ _ _ _ _ (by assumption) (by assumption)).mono ?_; rintro e w' ⟨rfl, rfl⟩)
  all_goals
    go_wp2
    go_loopw [27] (fun i wr => ∃ k : Nat, (k : Int) ≤ (a.size : Int) + b.size ∧ i = .int .i64 k ∧ Hid (x.take k = y.take k) ∧ Below (w.heap.size + 2) ((w.alloc (.cells #[.bool n1, .string a, .string b, .int .i64 p] 28)).alloc (.cells #[.bool n2, .string c, .string d, .int .i64 p] 28)) wr) (fun i _ => ((a.size : Int) + b.size - intOf i).toNat)
    case atStart =>
      exact ⟨0, by omega, rfl, rfl, (((Below.refl _ _).alloc (by simp) _).alloc (by simp) _).drew⟩
    case round =>
      obtain ⟨k, hk, rfl, htk, hbw⟩ := hrel
      have g00 : wr.cell? ⟨w.heap.size, 0, none⟩ = some (.bool n1) := by rw [hbw.cell (p := ⟨w.heap.size, 0, none⟩) (by simp)]; simp
      have g01 : wr.cell? ⟨w.heap.size, 1, none⟩ = some (.string a) := by rw [hbw.cell (p := ⟨w.heap.size, 1, none⟩) (by simp)]; simp
      have g02 : wr.cell? ⟨w.heap.size, 2, none⟩ = some (.string b) := by rw [hbw.cell (p := ⟨w.heap.size, 2, none⟩) (by simp)]; simp
      have g03 : wr.cell? ⟨w.heap.size, 3, none⟩ = some (.int .i64 p) := by rw [hbw.cell (p := ⟨w.heap.size, 3, none⟩) (by simp)]; simp
      have g10 : wr.cell? ⟨w.heap.size + 1, 0, none⟩ = some (.bool n2) := by rw [hbw.cell (p := ⟨w.heap.size + 1, 0, none⟩) (by simp)]; simp
      have g11 : wr.cell? ⟨w.heap.size + 1, 1, none⟩ = some (.string c) := by rw [hbw.cell (p := ⟨w.heap.size + 1, 1, none⟩) (by simp)]; simp
      have g12 : wr.cell? ⟨w.heap.size + 1, 2, none⟩ = some (.string d) := by rw [hbw.cell (p := ⟨w.heap.size + 1, 2, none⟩) (by simp)]; simp
      have g13 : wr.cell? ⟨w.heap.size + 1, 3, none⟩ = some (.int .i64 p) := by rw [hbw.cell (p := ⟨w.heap.size + 1, 3, none⟩) (by simp)]; simp
      have hsz : w.heap.size + 2 ≤ wr.heap.size := by have := hbw.size; simpa using this
      have hz0 : w.heap.size < wr.heap.size := by omega
      have hz1 : w.heap.size + 1 < wr.heap.size := by omega
      have hbb : Below w.heap.size w wr := ((((Below.refl _ _).alloc (Nat.le_refl _) _).alloc (by simp) _).trans (hbw.mono (by omega)))
      by_cases hlt : (k : Int) < (a.size : Int) + b.size
      · have kx : k < a.size + b.size := by omega
        have ky : k < c.size + d.size := by omega
        by_cases hne : byteAt x k = byteAt y k
        · have tb : (byteAt x k != byteAt y k) = false := by rw [hne]; simp
          have HN := Hid.mk hne
          clear hne
          go_wp2_with fail
          go_region_with (first | (go_at_call_of 36 (Value.string a); refine (DX.out k _ kx).mono ?_; rintro e w' ⟨rfl, rfl⟩) | (go_at_call_of 36 (Value.string c); refine (DY.out k _ ky).mono ?_; rintro e w' ⟨rfl, rfl⟩))
          all_goals
            go_wp2
            exact ⟨⟨k + 1, by omega, by go_num, take_grow x y k (by rw [HX.out]; exact kx) (by rw [HY.out]; exact ky) htk.out HN.out, ((hbw.alloc (by omega) _).alloc (by simp; omega) _).drew⟩, by simp [intOf]; omega⟩
        · have tb : (byteAt x k != byteAt y k) = true := by rw [bne_iff_ne]; exact hne
          have HN := Hid.mk hne
          clear hne
          go_wp2_with fail
          go_region_with (first | (go_at_call_of 36 (Value.string a); refine (DX.out k _ kx).mono ?_; rintro e w' ⟨rfl, rfl⟩) | (go_at_call_of 36 (Value.string c); refine (DY.out k _ ky).mono ?_; rintro e w' ⟨rfl, rfl⟩))
          all_goals
            go_wp2_with (go_at_call 37; refine (cmpB_any _ _ _).mono ?_; rintro e w' ⟨rfl, rfl⟩)
            go_ret
            exact ⟨ret_int (cmpT_at x y k (by rw [HX.out]; exact kx) (by rw [HY.out]; exact ky) htk.out HN.out).symm, ((hbb.alloc (by omega) _).alloc (by simp; omega) _).drew⟩
      · go_wp2_with (go_at_call 25; refine (cmpI_any _ _ _).mono ?_; rintro e w' ⟨rfl, rfl⟩)
        go_ret
        exact ⟨ret_int (by rw [cmpT_end x y k (by rw [HX.out]; omega) (by rw [HY.out]; omega) (by rw [HX.out, HY.out]; omega) htk.out, HX.out, HY.out]; go_num), hbb⟩
set_option maxHeartbeats 2000000 in
theorem mag_gt (n1 n2 : Bool) (a b c d : ByteArray) (p : Int) (w : World) (ha : a.size ≤ 2147483648) (hb : b.size ≤ 2147483648) (hc : c.size ≤ 2147483648) (hd : d.size ≤ 2147483648) (hle : c.size + d.size < a.size + b.size) :
    Calls Tryd.prog 26 #[.agg #[.bool n1, .string a, .string b, .int .i64 p], .agg #[.bool n2, .string c, .string d, .int .i64 p]] w fun e w' =>
      e = .returned (.int .i64 (cmpT (a.data.toList ++ b.data.toList) (c.data.toList ++ d.data.toList))) ∧ Below w.heap.size w w' := by
  have t0 : (p != p) = false := by simp
  have lx : (a.data.toList ++ b.data.toList).length = a.size + b.size := by simp
  have ly : (c.data.toList ++ d.data.toList).length = c.size + d.size := by simp
  have HX : Hid ((a.data.toList ++ b.data.toList).length = a.size + b.size) := lx
  have HY : Hid ((c.data.toList ++ d.data.toList).length = c.size + d.size) := ly
  clear lx ly
  generalize hx : a.data.toList ++ b.data.toList = x at *
  generalize hy : c.data.toList ++ d.data.toList = y at *
  have dx := fun (i : Nat) (w' : World) (hi : i < a.size + b.size) => digit_any n1 a b p i w' ha hb hi
  have dy := fun (i : Nat) (w' : World) (hi : i < c.size + d.size) => digit_any n2 c d p i w' hc hd hi
  rw [hx] at dx
  rw [hy] at dy
  clear hx hy
  have DX := Hid.mk dx
  have DY := Hid.mk dy
  clear dx dy
  go_enter Tryd.func26, Tryd.ntmps26
  go_wp2_with fail
  go_region_with (go_at_call 34; refine (len_any _ _ _ _ _ (by assumption) (by assumption)).mono ?_; rintro e w' ⟨rfl, rfl⟩)
  all_goals
    go_wp2
    go_loopw [27] (fun i wr => ∃ k : Nat, (k : Int) ≤ (c.size : Int) + d.size ∧ i = .int .i64 k ∧ Hid (x.take k = y.take k) ∧ Below (w.heap.size + 2) ((w.alloc (.cells #[.bool n1, .string a, .string b, .int .i64 p] 28)).alloc (.cells #[.bool n2, .string c, .string d, .int .i64 p] 28)) wr) (fun i _ => ((c.size : Int) + d.size - intOf i).toNat)
    case atStart =>
      exact ⟨0, by omega, rfl, rfl, (((Below.refl _ _).alloc (by simp) _).alloc (by simp) _).drew⟩
    case round =>
      obtain ⟨k, hk, rfl, htk, hbw⟩ := hrel
      have g00 : wr.cell? ⟨w.heap.size, 0, none⟩ = some (.bool n1) := by rw [hbw.cell (p := ⟨w.heap.size, 0, none⟩) (by simp)]; simp
      have g01 : wr.cell? ⟨w.heap.size, 1, none⟩ = some (.string a) := by rw [hbw.cell (p := ⟨w.heap.size, 1, none⟩) (by simp)]; simp
      have g02 : wr.cell? ⟨w.heap.size, 2, none⟩ = some (.string b) := by rw [hbw.cell (p := ⟨w.heap.size, 2, none⟩) (by simp)]; simp
      have g03 : wr.cell? ⟨w.heap.size, 3, none⟩ = some (.int .i64 p) := by rw [hbw.cell (p := ⟨w.heap.size, 3, none⟩) (by simp)]; simp
      have g10 : wr.cell? ⟨w.heap.size + 1, 0, none⟩ = some (.bool n2) := by rw [hbw.cell (p := ⟨w.heap.size + 1, 0, none⟩) (by simp)]; simp
      have g11 : wr.cell? ⟨w.heap.size + 1, 1, none⟩ = some (.string c) := by rw [hbw.cell (p := ⟨w.heap.size + 1, 1, none⟩) (by simp)]; simp
      have g12 : wr.cell? ⟨w.heap.size + 1, 2, none⟩ = some (.string d) := by rw [hbw.cell (p := ⟨w.heap.size + 1, 2, none⟩) (by simp)]; simp
      have g13 : wr.cell? ⟨w.heap.size + 1, 3, none⟩ = some (.int .i64 p) := by rw [hbw.cell (p := ⟨w.heap.size + 1, 3, none⟩) (by simp)]; simp
      have hsz : w.heap.size + 2 ≤ wr.heap.size := by have := hbw.size; simpa using this
      have hz0 : w.heap.size < wr.heap.size := by omega
      have hz1 : w.heap.size + 1 < wr.heap.size := by omega
      have hbb : Below w.heap.size w wr := ((((Below.refl _ _).alloc (Nat.le_refl _) _).alloc (by simp) _).trans (hbw.mono (by omega)))
      by_cases hlt : (k : Int) < (c.size : Int) + d.size
      · have kx : k < a.size + b.size := by omega
        have ky : k < c.size + d.size := by omega
        by_cases hne : byteAt x k = byteAt y k
        · have tb : (byteAt x k != byteAt y k) = false := by rw [hne]; simp
          have HN := Hid.mk hne
          clear hne
          go_wp2_with fail
          go_region_with (first | (go_at_call_of 36 (Value.string a); refine (DX.out k _ kx).mono ?_; rintro e w' ⟨rfl, rfl⟩) | (go_at_call_of 36 (Value.string c); refine (DY.out k _ ky).mono ?_; rintro e w' ⟨rfl, rfl⟩))
          all_goals
            go_wp2
            exact ⟨⟨k + 1, by omega, by go_num, take_grow x y k (by rw [HX.out]; exact kx) (by rw [HY.out]; exact ky) htk.out HN.out, ((hbw.alloc (by omega) _).alloc (by simp; omega) _).drew⟩, by simp [intOf]; omega⟩
        · have tb : (byteAt x k != byteAt y k) = true := by rw [bne_iff_ne]; exact hne
          have HN := Hid.mk hne
          clear hne
          go_wp2_with fail
          go_region_with (first | (go_at_call_of 36 (Value.string a); refine (DX.out k _ kx).mono ?_; rintro e w' ⟨rfl, rfl⟩) | (go_at_call_of 36 (Value.string c); refine (DY.out k _ ky).mono ?_; rintro e w' ⟨rfl, rfl⟩))
          all_goals
            go_wp2_with (go_at_call 37; refine (cmpB_any _ _ _).mono ?_; rintro e w' ⟨rfl, rfl⟩)
            go_ret
            exact ⟨ret_int (cmpT_at x y k (by rw [HX.out]; exact kx) (by rw [HY.out]; exact ky) htk.out HN.out).symm, ((hbb.alloc (by omega) _).alloc (by simp; omega) _).drew⟩
      · go_wp2_with (go_at_call 25; refine (cmpI_any _ _ _).mono ?_; rintro e w' ⟨rfl, rfl⟩)
        go_ret
        exact ⟨ret_int (by rw [cmpT_end x y k (by rw [HX.out]; omega) (by rw [HY.out]; omega) (by rw [HX.out, HY.out]; omega) htk.out, HX.out, HY.out]; go_num), hbb⟩
end Go.Proofs.Qxb6003914aDoor
