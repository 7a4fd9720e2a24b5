import Derived.Test.Qxb6609356aDoorW4
import Derived.Lib.SlBytesConst
import Derived.Lib.SmallJoins
namespace Go.Proofs.Qxb6609356aDoor
open Go.RowKit Go.Lib Go.Joins

set_option maxHeartbeats 400000 in
theorem skip_nil (w : World) : Calls Tryd.prog 12 #[.slice none 0 0, .int .i64 0] w fun e w' => e = .returned (.int .i64 0) ∧ w = w' := by
  go_enter Tryd.func12, Tryd.ntmps12
  go_wp2
  go_loop [1] (fun i => i = .int .i64 0) (fun _ => 0)
  case atStart => rfl
  case round =>
    subst hrel
    go_wp2
    go_ret
    exact ⟨rfl, rfl⟩

set_option maxHeartbeats 400000 in
theorem law_big (w : World) (p : Option Addr) (n cap : Nat) (h63 : n ≤ 9223372036854775807) (h : 65536 < n) :
    Calls Tryd.prog 4 #[.slice p n cap] w fun e w' => e = .returned (.bool true) ∧ Below w.heap.size w w' := by
  by_cases h1 : 1048576 < n
  · go_enter Tryd.func4, Tryd.ntmps4
    go_wp2
    go_ret
    exact ⟨rfl, Below.refl _ _⟩
  · go_enter Tryd.func4, Tryd.ntmps4
    go_wp2
    go_ret
    exact ⟨rfl, Below.refl _ _⟩

/-- The block of the constant. -/
def nulO : Obj := .cells #[.int .u8 110, .int .u8 117, .int .u8 108, .int .u8 108] 5 (4, 5)
theorem nul_Sl (w : World) : Sl (w.alloc nulO) (.slice (some ⟨w.heap.size, 0, none⟩) 4 4) nul := by
  refine .inr ⟨w.heap.size, 0, 4, rfl, by decide, ?_⟩
  intro j hj
  have hj4 : j < 4 := hj
  have : j = 0 ∨ j = 1 ∨ j = 2 ∨ j = 3 := by omega
  rcases this with rfl | rfl | rfl | rfl <;> simp [nulO, ba, nul, World.cell?_alloc_mark]
theorem abs_nul : Abs ([] ++ (nul ++ [])) := (between []).2 ws_nil

set_option maxHeartbeats 1000000 in
theorem law_nil (w : World) (hT : Tabs w) :
    Calls Tryd.prog 4 #[.slice none 0 0] w fun e w' => e = .returned (.bool true) ∧ Below w.heap.size w w' := by
  have kc := fun (w : World) (C : Array Value) (n c : Nat) => Lib.run_convert_bytes_const (P := Tryd.prog) w 22 5 C n c Tryd.underlying22 Tryd.underlying5
  have hnn := fun w => run_neq_slice_nil_any (P := Tryd.prog) w 22 5 none 0 0 0 0 Tryd.underlying22
  have HT := Hid.mk hT
  clear hT
  go_enter Tryd.func4, Tryd.ntmps4
  go_wp2_with (first | (go_at_call 10; go_in) | fail)
  refine (cat3_any (w.alloc nulO) none (some ⟨w.heap.size, 0, none⟩) none 0 4 0 0 4 0 [] nul [] (.inl ⟨rfl, rfl⟩) (nul_Sl w) (.inl ⟨rfl, rfl⟩) rfl rfl rfl (by omega) (by omega) (by omega)).mono ?_
  rintro e w1 ⟨rfl, hw1⟩
  have hB : Hid (BA w1 (w.heap.size + 1) 0 ([] ++ (nul ++ []))) := by
    refine Hid.mk ?_
    rw [hw1]
    have := row_BA (w.alloc nulO) ([] ++ (nul ++ []))
    simpa using this
  have hb1 : Below w.heap.size w w1 := by
    rw [hw1]
    exact ((Below.refl _ w).alloc (Nat.le_refl _) _).alloc (by simp) _
  have hT1 := Hid.mk (HT.out.below hb1)
  clear hw1 HT
  go_wp2_with fail
  refine (absent_any w1 (w.heap.size + 1) 0 4 4 ([] ++ (nul ++ [])) rfl (by omega) (by omega) (by omega) hB.out hT1.out).mono ?_
  rintro e w2 ⟨r, rfl, hr, hb2⟩
  obtain rfl : r = true := hr.2 abs_nul
  clear hr
  go_wp2_with fail
  refine (skip_nil w2).mono ?_
  rintro e w3 ⟨rfl, rfl⟩
  go_wp2
  go_ret
  exact ⟨rfl, hb1.trans (hb2.mono hb1.size)⟩

theorem cp_row (w : World) (x : Addr) (n cap : Nat) (l : List UInt8) (hn : l.length = n) (hB : ∀ j, j < l.length → w.cell? (x.add j) = some (.int .u8 (ba l j))) (ty : TypeId) :
    (Builtin.copy_ #[22, 22] ty #[.slice (some ⟨w.heap.size, 0, none⟩) n n, .slice (some x) n cap]).run Tryd.prog (w.alloc (.cells (bufC (List.replicate n 0)) 5)) = .ok (goInt n) (w.alloc (.cells (bufC l) 5)) := by
  obtain ⟨i, hi, hz, _, _⟩ := info5
  have h := run_copy_cells (P := Tryd.prog) (w.alloc (.cells (bufC (List.replicate n 0)) 5)) 22 22 ty 5 w.heap.size 0 n n x n cap (l.map bc) Tryd.underlying22 (by rw [hi]; simp [hz]) (by simp [hn])
    (fun j v hj => by
      have hjl : j < l.length := by
        have := (List.getElem?_eq_some_iff.1 hj).1
        simpa using this
      have e := ((Below.refl w.heap.size w).alloc (Nat.le_refl _) (.cells (bufC (List.replicate n 0)) 5)).cell (block_lt_of_cell (hB j hjl))
      rw [e, hB j hjl]
      rw [List.getElem?_map, List.getElem?_eq_getElem hjl] at hj
      simp at hj
      rw [← hj]
      unfold bc ba
      rw [List.getD_eq_getElem?_getD, List.getElem?_eq_getElem hjl]
      rfl)
    (fun j hj => by
      rw [Nat.zero_add, row_cell w _ j (by simp at hj ⊢; omega)]; rfl)
    (fun j hj => by simp)
    (fun v hv => by obtain ⟨_, _, rfl⟩ := List.mem_map.1 hv; rfl)
  rw [h, set_row w l _ 0 (by simp [hn])]
  simp [hn]

theorem byte_Sl (w : World) (c : UInt8) : Sl (w.alloc (.cells #[bc c] 5)) (.slice (some ⟨w.heap.size, 0, none⟩) 1 1) [c] := by
  refine .inr ⟨w.heap.size, 0, 1, rfl, by simp, ?_⟩
  exact row_BA w [c]

theorem Sl32 (w : World) : Sl (w.alloc (.cells #[.int .u8 32] 5)) (.slice (some ⟨w.heap.size, 0, none⟩) 1 1) [32] := byte_Sl w 32
theorem Sl10 (w : World) : Sl (w.alloc (.cells #[.int .u8 10] 5)) (.slice (some ⟨w.heap.size, 0, none⟩) 1 1) [10] := byte_Sl w 10
theorem own_Sl (w : World) (l : List UInt8) (n : Nat) (hn : l.length = n) : Sl (w.alloc (.cells (bufC l) 5)) (.slice (some ⟨w.heap.size, 0, none⟩) n n) l :=
  .inr ⟨w.heap.size, 0, n, by rw [hn], by omega, row_BA w l⟩

set_option maxHeartbeats 4000000 in
theorem law_some (w : World) (x : Addr) (n cap : Nat) (l : List UInt8) (hn : l.length = n) (h16 : n ≤ 65536) (hB : ∀ j, j < l.length → w.cell? (x.add j) = some (.int .u8 (ba l j))) (hT : Tabs w) :
    Calls Tryd.prog 4 #[.slice (some x) n cap] w fun e w' => e = .returned (.bool true) ∧ Below w.heap.size w w' := by
  have kc := fun (C : Array Value) (n c : Nat) => run_convert_bytes_const_at (P := Tryd.prog) (w.alloc (.cells (bufC l) 5)) 22 5 C n c (w.heap.size + 1) (by simp) Tryd.underlying22 Tryd.underlying5
  have hnn := fun w => run_neq_slice_nil_any (P := Tryd.prog) w 22 5 (some x) n cap 0 0 Tryd.underlying22
  have hmk := make_row w n n n n rfl rfl (Nat.le_refl _) (by omega)
  have HC := Hid.mk (cp_row w x n cap l hn hB)
  have HN := Hid.mk hn
  have HT := Hid.mk hT
  clear hT hB hn
  go_enter Tryd.func4, Tryd.ntmps4
  go_upto_region 7 with (first | (go_at_call 10; go_in) | fail)
  go_upto_region 8 with (refine wpList_copy_eq _ rfl _ _ 22 22 rfl _ _ rfl rfl (HC.out _) ?_)
  clear hmk HC
  go_wp2_with fail
  clear kc hnn
  have s1 : Sl ((w.alloc (.cells (bufC l) 5)).alloc nulO) (.slice (some ⟨w.heap.size, 0, none⟩) n n) l := (own_Sl w l n HN.out).alloc _
  have s2 : Sl ((w.alloc (.cells (bufC l) 5)).alloc nulO) (.slice (some ⟨w.heap.size + 1, 0, none⟩) 4 4) nul := by
    have := nul_Sl (w.alloc (.cells (bufC l) 5))
    simpa using this
  refine (cat3_any ((w.alloc (.cells (bufC l) 5)).alloc nulO) _ _ _ n 4 n n 4 n l nul l s1 s2 s1 HN.out rfl HN.out (by omega) (by omega) (by omega)).mono ?_
  clear s1 s2
  rintro e w1 ⟨rfl, hw1⟩
  have e2 : ((w.alloc (.cells (bufC l) 5)).alloc nulO).heap.size = w.heap.size + 1 + 1 := by simp
  have hBr : Hid (BA w1 w.heap.size 0 l) := by
    refine Hid.mk ?_
    rw [hw1]
    exact ((row_BA w l).alloc _).alloc _
  have hBa : Hid (BA w1 (w.heap.size + 1 + 1) 0 (l ++ (nul ++ l))) := by
    refine Hid.mk ?_
    rw [hw1, ← e2]
    exact row_BA _ _
  have hb1 : Hid (Below w.heap.size w w1) := by
    refine Hid.mk ?_
    rw [hw1]
    exact (((Below.refl _ w).alloc (Nat.le_refl _) _).alloc (by simp) _).alloc (by rw [e2]; omega) _
  have hT1 := Hid.mk (HT.out.below hb1.out)
  rw [e2]
  clear hw1 HT e2
  go_wp2_with fail
  refine (absent_any w1 (w.heap.size + 1 + 1) 0 (n + 4 + n) (n + 4 + n) (l ++ (nul ++ l)) (by have := HN.out; simp [nul]; omega) (by omega) (by omega) (by omega) hBa.out hT1.out).mono ?_
  rintro e w2 ⟨r1, rfl, hr1, hb2⟩
  have hBr2 := Hid.mk (hBr.out.below hb2)
  have hT2 := Hid.mk (hT1.out.below hb2)
  have hb2 := Hid.mk (hb1.out.trans (hb2.mono hb1.out.size))
  have HR1 := Hid.mk (hr1.trans (between l))
  clear hBr hT1 hb1 hr1 hBa
  go_wp2_with fail
  refine (skip_any w2 w.heap.size 0 n n l HN.out (by omega) hBr2.out).mono ?_
  rintro e w3 ⟨r2, rfl, hr2, hr3, rfl⟩
  have hq : ((r2 : Int) == (n : Int)) = r1 := by
    have h1 := HR1.out
    cases r1
    · refine beq_eq_false_iff_ne.2 (fun h => ?_)
      have := h1.2 (hr2.1 (by omega))
      cases this
    · exact beq_iff_eq.2 (by have := hr2.2 (h1.1 rfl); omega)
  clear hr2 hr3 HR1
  by_cases hn0 : 0 < n
  · go_wp2_with fail
    have s1 : Sl ((w2.alloc (.cells #[.int .u8 32] 5)).alloc (.cells #[.int .u8 10] 5)) (.slice (some ⟨w2.heap.size, 0, none⟩) 1 1) [32] := (Sl32 w2).alloc _
    have s2 : Sl ((w2.alloc (.cells #[.int .u8 32] 5)).alloc (.cells #[.int .u8 10] 5)) (.slice (some ⟨w.heap.size, 0, none⟩) n n) l := ((show Sl w2 _ l from .inr ⟨w.heap.size, 0, n, by rw [HN.out], by rw [HN.out]; exact Nat.le_refl _, hBr2.out⟩).alloc _).alloc _
    have s3 : Sl ((w2.alloc (.cells #[.int .u8 32] 5)).alloc (.cells #[.int .u8 10] 5)) (.slice (some ⟨w2.heap.size + 1, 0, none⟩) 1 1) [10] := by
      have := Sl10 (w2.alloc (.cells #[.int .u8 32] 5))
      simpa using this
    refine (cat3_any ((w2.alloc (.cells #[.int .u8 32] 5)).alloc (.cells #[.int .u8 10] 5)) _ _ _ 1 n 1 1 n 1 [32] l [10] s1 s2 s3 rfl HN.out rfl (by omega) (by omega) (by omega)).mono ?_
    clear s1 s2 s3
    rintro e w4 ⟨rfl, hw4⟩
    have e2 : ((w2.alloc (.cells #[.int .u8 32] 5)).alloc (.cells #[.int .u8 10] 5)).heap.size = w2.heap.size + 1 + 1 := by simp
    have hBp : Hid (BA w4 (w2.heap.size + 1 + 1) 0 ([32] ++ (l ++ [10]))) := by
      refine Hid.mk ?_
      rw [hw4, ← e2]
      exact row_BA _ _
    have hb4 : Below w2.heap.size w2 w4 := by
      rw [hw4]
      exact (((Below.refl _ w2).alloc (Nat.le_refl _) _).alloc (by simp) _).alloc (by rw [e2]; omega) _
    have hBr4 := Hid.mk (hBr2.out.below hb4)
    have hT4 := Hid.mk (hT2.out.below hb4)
    have hb4 := Hid.mk (hb2.out.trans (hb4.mono hb2.out.size))
    rw [e2]
    clear hw4 e2 hBr2 hT2 hb2
    go_wp2_with fail
    refine (absent_any w4 (w2.heap.size + 1 + 1) 0 (1 + n + 1) (1 + n + 1) ([32] ++ (l ++ [10])) (by have := HN.out; simp; omega) (by omega) (by omega) (by omega) hBp.out hT4.out).mono ?_
    rintro e w5 ⟨r3, rfl, hr3, hb5⟩
    have hBr5 := Hid.mk (hBr4.out.below hb5)
    have hT5 := Hid.mk (hT4.out.below hb5)
    have hb5 := Hid.mk (hb4.out.trans (hb5.mono hb4.out.size))
    have HR3 := Hid.mk (hr3.trans (padded l))
    clear hBr4 hT4 hb4 hr3 hBp
    go_wp2_with fail
    refine (absent_any w5 w.heap.size 0 n n l HN.out hn0 (Nat.le_refl _) (by omega) hBr5.out hT5.out).mono ?_
    rintro e w6 ⟨r4, rfl, hr4, hb6⟩
    have hb6 := Hid.mk (hb5.out.trans (hb6.mono hb5.out.size))
    have h34 : r3 = r4 := by
      have h1 := HR3.out.trans hr4.symm
      cases r3 <;> cases r4 <;> simp at h1 ⊢
    subst h34
    clear HR3 hr4 hBr5 hT5 hb5
    go_wp2
    go_ret
    exact ⟨rfl, hb6.out⟩
  · go_wp2
    go_ret
    exact ⟨rfl, hb2.out⟩
end Go.Proofs.Qxb6609356aDoor
