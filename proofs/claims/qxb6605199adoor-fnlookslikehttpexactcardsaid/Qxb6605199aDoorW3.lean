import Derived.Test.Qxb6605199aDoorW2
import Derived.Deep.AppendSrc
import Derived.Deep.Cut
import Derived.Laws.MakeOwn
namespace Go.Proofs.Qxb6605199aDoor
open Go.RowKit Go.Lib

/-- A byte as a cell; the cells of a row of bytes. -/
def bc (b : UInt8) : Value := .int .u8 (b.toNat : Int)
def bufC (l : List UInt8) : Array Value := (l.map bc).toArray
theorem bufC_size (l : List UInt8) : (bufC l).size = l.length := by simp [bufC]
theorem row_cell (w : World) (l : List UInt8) (j : Nat) (h : j < l.length) : (w.alloc (.cells (bufC l) 5)).cell? ⟨w.heap.size, j, none⟩ = some (bc l[j]) := by
  simp [bufC, h]
theorem row_BA (w : World) (l : List UInt8) : BA (w.alloc (.cells (bufC l) 5)) w.heap.size 0 l := by
  intro j hj
  rw [Nat.zero_add, row_cell w l j hj]
  unfold bc ba
  rw [List.getD_eq_getElem?_getD, List.getElem?_eq_getElem hj]
  rfl
theorem info5 : ∃ i, Tryd.prog.info? 5 = some i ∧ i.size = 1 ∧ i.zero = some (.int .u8 0) ∧ i.bytes = 1 := by
  have h : (Tryd.prog.info? 5).map (fun i => (i.size, i.zero, i.bytes)) = some (1, some (.int .u8 0), 1) := by kernel_rfl
  obtain ⟨i, hi, hz⟩ := Option.map_eq_some_iff.1 h
  simp only [Prod.mk.injEq] at hz
  exact ⟨i, hi, hz.1, hz.2.1, hz.2.2⟩
theorem made_buf (n : Nat) : madeCells #[.int .u8 0] n = bufC (List.replicate n 0) := by
  apply Array.ext
  · rw [size_madeCells]; simp [bufC]
  · intro i h1 h2
    simp [madeCells, bufC, bc, Nat.mod_one]
/-- make([]byte, k, n). -/
theorem make_row (w : World) (k n : Nat) (x y : Int) (hx : x = k) (hy : y = n) (hk : k ≤ n) (hn : n ≤ 4294967296) :
    (Instr.makeSlice 22 (.int .i64 x) (.int .i64 y)).run Tryd.prog w = .ok (.slice (some ⟨w.heap.size, 0, none⟩) k n) (w.alloc (.cells (bufC (List.replicate n 0)) 5)) := by
  subst hx; subst hy
  obtain ⟨i, hi, hz, h0, hb⟩ := info5
  have h := run_make (P := Tryd.prog) w 22 5 i (.int .u8 0) Tryd.underlying22 hi h0 .i64 .i64 k n (by omega) (by omega) (by rw [hb]; omega) (by omega)
  rw [h, hz]
  simp only [Int.toNat_natCast, Nat.mul_one]
  rw [show (Value.int .u8 0).cells = #[.int .u8 0] from rfl, made_buf]

/-- What a copy of l holds when k bytes are copied. -/
def part (l : List UInt8) (k : Nat) : List UInt8 := l.take k ++ List.replicate (l.length - k) 0
theorem part_zero (l : List UInt8) : part l 0 = List.replicate l.length 0 := by simp [part]
theorem part_full (l : List UInt8) : part l l.length = l := by simp [part]
theorem part_set (l : List UInt8) (k : Nat) (h : k < l.length) : (bufC (part l k)).setIfInBounds k (.int .u8 (ba l k)) = bufC (part l (k + 1)) := by
  have e : (Value.int .u8 (ba l k)) = bc (l[k]) := by
    unfold ba bc
    rw [List.getD_eq_getElem?_getD, List.getElem?_eq_getElem h]; rfl
  rw [e]
  unfold bufC
  rw [List.setIfInBounds_toArray, ← List.map_set]
  congr 2
  unfold part
  rw [List.set_append_right _ _ (by simp; omega)]
  have h1 : l.take (k + 1) = l.take k ++ [l[k]] := by rw [List.take_succ_eq_append_getElem h]
  rw [h1, List.append_assoc]
  congr 1
  have h2 : l.length - k = (l.length - (k + 1)) + 1 := by omega
  rw [h2, List.replicate_succ]
  simp [Nat.min_eq_left (Nat.le_of_lt h)]

theorem copy_nil (w : World) : Calls Tryd.prog 5 #[.slice none 0 0] w fun e w' => e = .returned (.slice none 0 0) ∧ w' = w := by
  have hnn := fun w => Lib.run_eql_slice_nil (P := Tryd.prog) w 22 5 none 0 0 0 0 Tryd.underlying22
  go_enter Tryd.func5, Tryd.ntmps5
  go_wp2
  go_ret
  exact ⟨rfl, rfl⟩
set_option maxHeartbeats 1000000 in
/-- zzCopyBytes at a slice that is not nil. -/
theorem copy_some (w : World) (x : Addr) (n cap : Nat) (l : List UInt8) (hn : l.length = n) (h63 : n ≤ 4294967296) (hB : ∀ j, j < l.length → w.cell? (x.add j) = some (.int .u8 (ba l j))) :
    Calls Tryd.prog 5 #[.slice (some x) n cap] w fun e w' => e = .returned (.slice (some ⟨w.heap.size, 0, none⟩) n n) ∧ w' = w.alloc (.cells (bufC l) 5) := by
  have hnn := fun w => Lib.run_eql_slice_nil (P := Tryd.prog) w 22 5 (some x) n cap 0 0 Tryd.underlying22
  have hmk := make_row w n n n n rfl rfl (Nat.le_refl _) h63
  have HB := Hid.mk hB
  have HN := Hid.mk hn
  clear hB hn
  go_enter Tryd.func5, Tryd.ntmps5
  go_wp2
  go_loopw [4] (fun iv wr => ∃ k : Nat, k ≤ n ∧ iv = .int .i64 k ∧ wr = w.alloc (.cells (bufC (part l k)) 5)) (fun iv _ => n - (RowKit.intOf iv).toNat)
  case atStart => exact ⟨0, by omega, rfl, by rw [part_zero, HN.out]⟩
  case round =>
    obtain ⟨k, hk, rfl, rfl⟩ := hrel
    by_cases h : k < n
    · have hkl : k < l.length := by rw [HN.out]; exact h
      have hc := HB.out k hkl
      have hs := part_set l k hkl
      obtain ⟨C, hC⟩ : ∃ C, C = bufC (part l k) := ⟨_, rfl⟩
      have hCs : C.size = n := by rw [hC, bufC_size]; simp [part]; have := HN.out; omega
      rw [← hC] at hs ⊢
      have HS := Hid.mk hs
      obtain ⟨y, hy⟩ : ∃ y, y = ba l k := ⟨_, rfl⟩
      rw [← hy] at hc
      have hc' : ∀ o, (w.alloc o).cell? (x.add k) = some (.int .u8 y) := fun o => by
        rw [((Below.refl w.heap.size w).alloc (Nat.le_refl _) o).cell (block_lt_of_cell hc)]; exact hc
      have HY := Hid.mk hy
      clear hs hC hy
      go_wp2
      go_roundw
      case rel => exact ⟨k + 1, by omega, by go_num, by rw [HY.out, HS.out]⟩
      case measure => simp [RowKit.intOf]; omega
    · obtain rfl : k = n := by omega
      go_wp2
      go_ret
      refine ⟨rfl, ?_⟩
      have e := part_full l
      rw [HN.out] at e
      rw [e]
end Go.Proofs.Qxb6605199aDoor
