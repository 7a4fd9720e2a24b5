import Derived.Test.Qxb6605569aDoorP1
import Derived.DeepKeys
import Derived.Deep.WholeRow
namespace Go.Proofs.Qxb6605569aDoor
open Go.RowKit Go.Lib

/-- The sixteen bytes as cells. -/
def cellsA (A : List Int) : Array Value := (A.map (Value.int .u8)).toArray
theorem info5' : ∃ i, Tryd.prog.info? 5 = some i := by
  obtain ⟨i, hi, _⟩ := info5
  exact ⟨i, hi⟩
theorem cells5 : Tryd.prog.cellsOf 5 = 1 := by kernel_rfl
theorem part5 (A : List Int) (i : Nat) (h : i < A.length) (w : World) : (part 5 (cellsA A) (i * 1)).run Tryd.prog w = .ok (.int .u8 A[i]) w := by
  have e : (cellsA A)[i]? = some (.int .u8 A[i]) := by simp [cellsA, h]
  unfold part
  simp [go_sem, e]
theorem eq_items (A : List Int) (w : World) : ∀ (is : List Nat), (∀ i ∈ is, i < A.length) → (Op.eqItems 9999 5 1 (cellsA A) (cellsA A) is).run Tryd.prog w = .ok true w
  | [], _ => by simp [Op.eqItems]
  | i :: is, h => by
    have hi := h i (by simp)
    simp only [Op.eqItems, Sem.run_bind, part5 A i hi, Result.andThen_ok]
    rw [run_equalIn_int w 9998 5 .u8 .u8 _ _ Tryd.underlying5]
    simp [eq_items A w is (fun j hj => h j (by simp [hj]))]
theorem eq_arr (A : List Int) (h : A.length = 16) (w : World) : (Op.equalIn 10000 25 (.agg (cellsA A)) (.agg (cellsA A))).run Tryd.prog w = .ok true w := by
  obtain ⟨i, hi⟩ := info5'
  rw [show (10000 : Nat) = 9999 + 1 from rfl, run_equalIn_array w 9999 (n := 16) (e := 5) _ _ Tryd.underlying25 hi, cells5]
  exact eq_items A w _ (fun i hi => by rw [h]; simpa using hi)
theorem info25 : (Tryd.prog.info? 25).map (·.size) = some 16 := by kernel_rfl
theorem wpList_row {P : Program} {ops : Array Oper} {rest : List Oper} {o : Oper} {a : Act} {w : World} {Q : Exit → Act → World → Prop} (hw : Region.wanted o (yielded ops a.tmps) = true) (ty : TypeId) (x : Operand) (ho : o.op = .load ty x)
    (g : Nat) (hx : a.eval x = .pointer (some ⟨g, 0, none⟩)) (t : TypeId) (cs : Array Value) (fr : Nat × Nat) (d : TypeDesc) (hg : w.heap[g]? = some (.cells cs t fr))
    (hu : P.underlying ty = some d) (hd : (match d with | .struct _ | .array _ _ => true | _ => false) = true) (hi : (P.info? ty).map (·.size) = some cs.size)
    (h : wpList P ops Q rest (a.put o.dst (.agg cs)) w) : wpList P ops Q (o :: rest) a w :=
  wpList_step fun K hK => by rw [if_pos hw]; exact wp_load_row ty x ho g hx t cs fr d hg hu hd hi (hK _ _ h)
theorem row_kept {w w' : World} {b : Nat} {o : Obj} (h : w.heap[b]? = some o) (hb : Below w.heap.size w w') : w'.heap[b]? = some o := by
  rw [hb.block b (by obtain ⟨h, _⟩ := Array.getElem?_eq_some_iff.1 h; exact h)]; exact h

set_option maxHeartbeats 1000000 in
theorem law_row (C : Array Value) (hCs : C.size = 16) (hone : C.all (·.oneCell') = true) (heq : ∀ w, (Op.equalIn 10000 25 (.agg C) (.agg C)).run Tryd.prog w = .ok true w) (u : Int) (w : World) (s1 s2 : ByteArray)
    (S1 : ∀ w, Calls Tryd.prog 8 #[.agg C, .int .u32 u] w fun e w' => e = .returned (.string s1) ∧ Below w.heap.size w w')
    (S2 : ∀ w, Calls Tryd.prog 8 #[.agg C, .int .u32 0] w fun e w' => e = .returned (.string s2) ∧ Below w.heap.size w w')
    (U : ∀ w, Calls Tryd.prog 6 #[.string s1] w fun e w' => e = .returned (.tuple #[.string s2, .bool true]) ∧ Below w.heap.size w w')
    (V : ∀ w, Calls Tryd.prog 9 #[.string s2] w fun e w' => e = .returned (.tuple #[.agg C, .bool true]) ∧ Below w.heap.size w w') :
    Calls Tryd.prog 4 #[.agg C, .int .u32 u] w fun e w' => e = .returned (.bool true) ∧ Below w.heap.size w w' := by
  have hi : (Tryd.prog.info? 25).map (·.size) = some C.size := by rw [hCs]; exact info25
  have HI := Hid.mk hi
  have HO := Hid.mk hone
  have HS := Hid.mk hCs
  clear hi hone hCs
  have HG0 := Hid.mk (heap_alloc_last w (.cells C 25))
  go_enter Tryd.func4, Tryd.ntmps4
  go_wp2_with (first | (refine wpList_load_row rfl 25 (.tmp 2) rfl w.heap.size rfl 25 C (0, 0) _ HG0.out Tryd.underlying25 rfl HI.out ?_) | fail)
  refine (S1 _).mono ?_
  rintro e w1 ⟨rfl, b1⟩
  have HG1 := Hid.mk (row_kept HG0.out b1)
  have B1 := Hid.mk b1
  clear b1
  go_wp2_with (first | (refine wpList_load_row rfl 25 (.tmp 2) rfl w.heap.size rfl 25 C (0, 0) _ HG1.out Tryd.underlying25 rfl HI.out ?_) | fail)
  refine (S2 _).mono ?_
  rintro e w2 ⟨rfl, b2⟩
  have HG2 := Hid.mk (row_kept HG1.out b2)
  have B2 := Hid.mk b2
  clear b2
  go_wp2_with fail
  refine (U _).mono ?_
  rintro e w3 ⟨rfl, b3⟩
  have HG3 := Hid.mk (row_kept HG2.out b3)
  have B3 := Hid.mk b3
  clear b3
  go_wp2_with fail
  refine (V _).mono ?_
  rintro e w4 ⟨rfl, b4⟩
  have HG4 := Hid.mk (row_kept HG3.out b4)
  have B4 := Hid.mk b4
  clear b4
  go_wp2_with (first
    | (refine wpList_store_row rfl 25 (.tmp 9) (.tmp 31) rfl w4.heap.size C rfl rfl 25 _ (heap_alloc_last w4 _) HI.out HS.out.symm HO.out ?_; rw [World.setRow_alloc_new]; have HG5 := Hid.mk (row_kept HG4.out ((Below.refl _ w4).alloc (Nat.le_refl _) (.cells C 25))); have HG6 := Hid.mk (heap_alloc_last w4 (.cells C 25)))
    | (refine wpList_row rfl 25 (.tmp 9) rfl w4.heap.size rfl 25 C (0, 0) _ HG6.out Tryd.underlying25 rfl HI.out ?_)
    | (refine wpList_row rfl 25 (.tmp 2) rfl w.heap.size rfl 25 C (0, 0) _ HG5.out Tryd.underlying25 rfl HI.out ?_)
    | fail)
  go_ret
  refine ⟨rfl, ?_⟩
  have h0 : Below w.heap.size w (w.alloc (.cells C 25)) := (Below.refl _ _).alloc (Nat.le_refl _) _
  have h1 := h0.trans (B1.out.mono h0.size)
  have h2 := h1.trans (B2.out.mono h1.size)
  have h3 := h2.trans (B3.out.mono h2.size)
  have h4 := h3.trans (B4.out.mono h3.size)
  exact h4.alloc h4.size _

theorem law_any (A : List Int) (hA : Oct A) (u : Int) (hu : 0 ≤ u ∧ u ≤ 4294967295) (w : World) :
    Calls Tryd.prog 4 #[.agg (A.map (Value.int .u8)).toArray, .int .u32 u] w fun e w' => e = .returned (.bool true) ∧ Below w.heap.size w w' :=
  law_row (cellsA A) (by simp [cellsA, hA.1]) (by simp [cellsA, Value.oneCell']) (eq_arr A hA.1) u w (str A u) (str A 0)
    (fun w => spell_any A u w hA hu) (fun w => spell_any A 0 w hA (by omega))
    (fun w => by have := uuid_ok (str A u) w (str_canon hA u); rw [str_lower hA u] at this; exact this)
    (fun w => value_any A hA (str A 0) w (str_low hA))
end Go.Proofs.Qxb6605569aDoor
