import Derived.Test.Qxb6609356aDoorW3
import Derived.Deep.AppendSrc
import Derived.Deep.Cut
import Derived.Laws.MakeOwn
import Derived.Laws.IdiomCopy
namespace Go.Proofs.Qxb6609356aDoor
open Go.RowKit Go.Lib

/-- A byte as a cell; the cells of a row of bytes. -/
def bc (b : UInt8) : Value := .int .u8 (b.toNat : Int)
def bufC (l : List UInt8) : Array Value := (l.map bc).toArray
theorem bufC_size (l : List UInt8) : (bufC l).size = l.length := by simp [bufC]
theorem bufC_set (l : List UInt8) (k : Nat) (c : UInt8) : (bufC l).setIfInBounds k (bc c) = bufC (l.set k c) := by
  simp [bufC, List.map_set]
theorem set_row (w : World) : ∀ (s l : List UInt8) (k : Nat), k + s.length ≤ l.length → (w.alloc (.cells (bufC l) 5)).setCells w.heap.size k (s.map bc) = w.alloc (.cells (bufC (l.take k ++ (s ++ l.drop (k + s.length)))) 5)
  | [], l, k, _ => by simp [World.setCells]
  | c :: s, l, k, h => by
    rw [List.map_cons, World.setCells, World.setCell_alloc_at _ _ _ _ _ rfl, bufC_set, set_row w s (l.set k c) (k + 1) (by simp at h ⊢; omega)]
    congr 3
    simp at h
    have h1 : (l.set k c).take (k + 1) = l.take k ++ [c] := by
      rw [List.take_succ_eq_append_getElem (by simp; omega), List.take_set_of_le (by omega)]
      simp
    have h2 : (l.set k c).drop (k + 1 + s.length) = l.drop (k + (c :: s).length) := by
      rw [List.drop_set_of_lt (by omega)]
      simp; congr 1; omega
    rw [h1, h2]
    simp
theorem row_cell (w : World) (l : List UInt8) (j : Nat) (h : j < l.length) : (w.alloc (.cells (bufC l) 5)).cell? ⟨w.heap.size, j, none⟩ = some (bc l[j]) := by
  simp [bufC, h]
theorem row_BA (w : World) (l : List UInt8) : BA (w.alloc (.cells (bufC l) 5)) w.heap.size 0 l := by
  intro j hj
  rw [Nat.zero_add, row_cell w l j hj]
  unfold bc ba
  rw [List.getD_eq_getElem?_getD, List.getElem?_eq_getElem hj]
  rfl
theorem BA.alloc {w : World} {b off : Nat} {l : List UInt8} (h : BA w b off l) (o : Obj) : BA (w.alloc o) b off l := h.below ((Below.refl _ _).alloc (Nat.le_refl _) _)

theorem info5 : ∃ i, Tryd.prog.info? 5 = some i ∧ i.size = 1 ∧ i.zero = some (.int .u8 0) ∧ i.bytes = 1 := by
  have h : (Tryd.prog.info? 5).map (fun i => (i.size, i.zero, i.bytes)) = some (1, some (.int .u8 0), 1) := by kernel_rfl
  obtain ⟨i, hi, hz⟩ := Option.map_eq_some_iff.1 h
  simp only [Prod.mk.injEq] at hz
  exact ⟨i, hi, hz.1, hz.2.1, hz.2.2⟩

/-- A slice value that holds the bytes l. -/
def Sl (w : World) (v : Value) (l : List UInt8) : Prop := (v = .slice none 0 0 ∧ l = []) ∨ ∃ b off cap, v = .slice (some ⟨b, off, none⟩) l.length cap ∧ l.length ≤ cap ∧ BA w b off l
theorem Sl.below {w w' : World} {v : Value} {l : List UInt8} (h : Sl w v l) (hb : Below w.heap.size w w') : Sl w' v l := by
  rcases h with h | ⟨b, off, cap, h1, h2, h3⟩
  · exact .inl h
  · exact .inr ⟨b, off, cap, h1, h2, h3.below hb⟩
theorem Sl.alloc {w : World} {v : Value} {l : List UInt8} (h : Sl w v l) (o : Obj) : Sl (w.alloc o) v l := h.below ((Below.refl _ _).alloc (Nat.le_refl _) _)
theorem Sl.src {w : World} {v : Value} {l : List UInt8} (h : Sl w v l) : Src Tryd.prog 1 22 v l.length (l.map bc) w := by
  rcases h with ⟨rfl, rfl⟩ | ⟨b, off, cap, rfl, h2, h3⟩
  · exact Src.ofNil w Tryd.underlying22 0
  · refine Src.ofSlice w Tryd.underlying22 _ _ _ _ (by simp) (fun j u hj => ?_) (fun u hu => ?_)
    · have hjl : j < l.length := by
        have := (List.getElem?_eq_some_iff.1 hj).1
        simpa using this
      have e : (⟨b, off, none⟩ : Addr).add j = ⟨b, off + j, none⟩ := by unfold Addr.add; split <;> simp_all
      rw [e, h3 j hjl]
      rw [List.getElem?_map, List.getElem?_eq_getElem hjl] at hj
      simp at hj
      rw [← hj]
      unfold bc ba
      rw [List.getD_eq_getElem?_getD, List.getElem?_eq_getElem hjl]
      rfl
    · obtain ⟨_, _, rfl⟩ := List.mem_map.1 hu
      rfl

/-- append onto a row of the call's own, with room. -/
theorem app_row (w : World) (l s : List UInt8) (k cap : Nat) (ty : TypeId) (v : Value) (hl : l.length = cap) (hk : k + s.length ≤ cap) (hs : Sl w v s) :
    (Builtin.append_ #[22, 22] ty #[.slice (some ⟨w.heap.size, 0, none⟩) k cap, v]).run Tryd.prog (w.alloc (.cells (bufC l) 5)) = .ok (.slice (some ⟨w.heap.size, 0, none⟩) (k + s.length) cap) (w.alloc (.cells (bufC (l.take k ++ (s ++ l.drop (k + s.length)))) 5)) := by
  obtain ⟨i, hi, hz, _, _⟩ := info5
  have hsrc := (hs.alloc (.cells (bufC l) 5)).src
  rw [← hz] at hsrc
  have h := run_append_room_src (P := Tryd.prog) (w.alloc (.cells (bufC l) 5)) 22 22 ty 5 i Tryd.underlying22 hi w.heap.size 0 k cap v s.length (s.map bc) hsrc hk
    (fun j hj => by
      rw [hz, Nat.mul_one, Nat.zero_add, row_cell w l (k + j) (by simp at hj; omega)]; rfl)
    (fun j hj => by simp)
  rw [h, hz, Nat.mul_one, Nat.zero_add, set_row w s l k (by omega)]

theorem made_buf (n : Nat) : madeCells #[.int .u8 0] n = bufC (List.replicate n 0) := by
  apply Array.ext
  · rw [size_madeCells]; simp [bufC]
  · intro i h1 h2
    simp [madeCells, bufC, bc, Nat.mod_one]
/-- make([]byte, k, n). -/
theorem make_row (w : World) (k n : Nat) (x y : Int) (hx : x = k) (hy : y = n) (hk : k ≤ n) (hn : n ≤ 4294967296) :
    (Instr.makeSlice 22 (.int .i64 x) (.int .i64 y)).run Tryd.prog w = .ok (.slice (some ⟨w.heap.size, 0, none⟩) k n) (w.alloc (.cells (bufC (List.replicate n 0)) 5)) := by
  subst hx; subst hy
  obtain ⟨i, hi, hz, h0, hb⟩ := info5
  have h := run_make (P := Tryd.prog) w 22 5 i (.int .u8 0) Tryd.underlying22 hi h0 .i64 .i64 k n (by omega) (by omega) (by rw [hb]; omega) (by omega)
  rw [h, hz]
  simp only [Int.toNat_natCast, Nat.mul_one]
  rw [show (Value.int .u8 0).cells = #[.int .u8 0] from rfl, made_buf]

/-- An append whose run is known. -/
theorem wpList_app_eq {P : Program} (w : World) {ops : Array Oper} {rest : List Oper} {o : Oper} {a : Act} {Q : Exit → Act → World → Prop} (hgd : o.guard = none) (s x : Operand) (t tx : TypeId)
    (ho : o.op = .call { callee := .builtin .append, args := #[s, x], argTypes := #[t, tx] }) (sv xv : Value) (hs : a.eval s = sv) (hx : a.eval x = xv) {v' : Value} {w' : World}
    (hrun : (Builtin.append_ #[t, tx] o.type #[sv, xv]).run P w = .ok v' w') (hK : wpList P ops Q rest (a.put o.dst v') w') : wpList P ops Q (o :: rest) a w := by
  refine wpList_plain hgd fun K hK' => ?_
  unfold Oper.wp
  simp [execOp, ho, resolve, invoke, builtin, hs, hx, hrun, Result.andThen]
  exact hK' _ _ hK
/-- A copy whose run is known. -/
theorem wpList_copy_eq {P : Program} (w : World) {ops : Array Oper} {rest : List Oper} {o : Oper} {a : Act} {Q : Exit → Act → World → Prop} (hgd : o.guard = none) (s x : Operand) (t tx : TypeId)
    (ho : o.op = .call { callee := .builtin .copy, args := #[s, x], argTypes := #[t, tx] }) (sv xv : Value) (hs : a.eval s = sv) (hx : a.eval x = xv) {v' : Value} {w' : World}
    (hrun : (Builtin.copy_ #[t, tx] o.type #[sv, xv]).run P w = .ok v' w') (hK : wpList P ops Q rest (a.put o.dst v') w') : wpList P ops Q (o :: rest) a w := by
  refine wpList_plain hgd fun K hK' => ?_
  unfold Oper.wp
  simp [execOp, ho, resolve, invoke, builtin, hs, hx, hrun, Result.andThen]
  exact hK' _ _ hK

set_option maxHeartbeats 1000000 in
/-- cat3. -/
theorem cat3_any (w : World) (pa pb pc : Option Addr) (na nb nc ca cb cc : Nat) (A B C : List UInt8) (hA : Sl w (.slice pa na ca) A) (hB : Sl w (.slice pb nb cb) B) (hC : Sl w (.slice pc nc cc) C)
    (ea : A.length = na) (eb : B.length = nb) (ec : C.length = nc) (la : na ≤ 1048576) (lb : nb ≤ 1048576) (lc : nc ≤ 1048576) :
    Calls Tryd.prog 11 #[.slice pa na ca, .slice pb nb cb, .slice pc nc cc] w fun e w' => e = .returned (.slice (some ⟨w.heap.size, 0, none⟩) (na + nb + nc) (na + nb + nc)) ∧ w' = w.alloc (.cells (bufC (A ++ (B ++ C))) 5) := by
  have hmk := make_row w 0 (na + nb + nc) 0 ((na : Int) + nb + nc) rfl (by omega) (by omega) (by omega)
  have a1 := fun ty => app_row w (List.replicate (na + nb + nc) 0) A 0 (na + nb + nc) ty _ (by simp) (by omega) hA
  have a2 := fun ty => app_row w (A ++ List.replicate (nb + nc) 0) B na (na + nb + nc) ty _ (by simp; omega) (by omega) hB
  have a3 := fun ty => app_row w ((A ++ B) ++ List.replicate nc 0) C (na + nb) (na + nb + nc) ty _ (by simp; omega) (by omega) hC
  have e1 : (List.replicate (na + nb + nc) (0 : UInt8)).take 0 ++ (A ++ (List.replicate (na + nb + nc) (0 : UInt8)).drop (0 + A.length)) = A ++ List.replicate (nb + nc) 0 := by
    simp; congr 1; omega
  have e2 : (A ++ List.replicate (nb + nc) (0 : UInt8)).take na ++ (B ++ (A ++ List.replicate (nb + nc) (0 : UInt8)).drop (na + B.length)) = (A ++ B) ++ List.replicate nc 0 := by
    rw [← ea, List.take_left, List.drop_append, List.drop_of_length_le (by omega), List.nil_append, List.drop_replicate, show nb + nc - (A.length + B.length - A.length) = nc by omega, List.append_assoc]
  have e3 : ((A ++ B) ++ List.replicate nc (0 : UInt8)).take (na + nb) ++ (C ++ ((A ++ B) ++ List.replicate nc (0 : UInt8)).drop (na + nb + C.length)) = A ++ (B ++ C) := by
    rw [show na + nb = (A ++ B).length by simp; omega, List.take_left, List.drop_append]
    simp; omega
  rw [e1, Nat.zero_add, ea] at a1
  rw [e2, eb, List.append_assoc] at a2
  rw [e3, ec, List.append_assoc] at a3
  clear e1 e2 e3 hA hB hC ea eb ec
  go_enter Tryd.func11, Tryd.ntmps11
  have A1 := Hid.mk a1
  have A2 := Hid.mk a2
  have A3 := Hid.mk a3
  clear a1 a2 a3
  go_upto_region 2 with (fail)
  go_upto_region 3 with (at_builtin; refine wpList_app_eq _ rfl _ _ 22 22 rfl _ _ rfl rfl (A1.out _) ?_)
  go_upto_region 4 with (at_builtin; refine wpList_app_eq _ rfl _ _ 22 22 rfl _ _ rfl rfl (A2.out _) ?_)
  go_wp2_with (at_builtin; refine wpList_app_eq _ rfl _ _ 22 22 rfl _ _ rfl rfl (A3.out _) ?_)
  go_ret
  exact ⟨rfl, rfl⟩
end Go.Proofs.Qxb6609356aDoor
