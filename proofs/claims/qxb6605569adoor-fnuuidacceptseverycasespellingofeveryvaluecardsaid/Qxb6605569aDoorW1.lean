import Derived.Test.Qxb6605569aDoorShelf
import Derived.WalkKit
import Derived.WalkSpells
import Derived.WalkLawsBesides
import Derived.Handy
import Derived.Deep.Cut
import Derived.Laws.MakeOwn
import Derived.Laws.IdiomStrings
namespace Go.Proofs.Qxb6605569aDoor
open Go.RowKit Go.Lib

theorem Hid.mk {p : Prop} (h : p) : Hid p := h

/-- The d-th of the 32 half bytes. -/
def nib (A : List Int) (d : Nat) : Int := if d % 2 = 0 then A.getD (d / 2) 0 / 16 else A.getD (d / 2) 0 % 16
/-- Its digit. -/
def dig (A : List Int) (u : Int) (d : Nat) : Int := if nib A d < 10 then 48 + nib A d else if (bits BinOp.and IntKind.u32 (u / 2 ^ d) 1 == 1) = true then 65 + nib A d - 10 else 97 + nib A d - 10
/-- What stands ahead of it. -/
def pre (d : Nat) : List Int := if d = 8 ∨ d = 12 ∨ d = 16 ∨ d = 20 then [45] else []
/-- The spelling of the first d. -/
def sp (A : List Int) (u : Int) : Nat → List Int
  | 0 => []
  | d + 1 => sp A u d ++ (pre d ++ [dig A u d])
theorem pre_len (d : Nat) : (pre d).length = if d = 8 ∨ d = 12 ∨ d = 16 ∨ d = 20 then 1 else 0 := by
  unfold pre; split <;> rfl
theorem sp_len' (A : List Int) (u : Int) : ∀ d, (sp A u d).length = d + ((if 8 < d then 1 else 0) + (if 12 < d then 1 else 0) + (if 16 < d then 1 else 0) + (if 20 < d then 1 else 0))
  | 0 => rfl
  | d + 1 => by
    simp only [sp, List.length_append, pre_len, sp_len' A u d, List.length_cons, List.length_nil]
    repeat' split
    all_goals omega
theorem sp_len (A : List Int) (u : Int) (d : Nat) (h : d ≤ 32) : (sp A u d).length ≤ d + 4 := by
  rw [sp_len']
  repeat' split
  all_goals omega
/-- Sixteen bytes. -/
def Oct (A : List Int) : Prop := A.length = 16 ∧ ∀ j, 0 ≤ A.getD j 0 ∧ A.getD j 0 ≤ 255
theorem nib_bd {A : List Int} (h : Oct A) (d : Nat) : 0 ≤ nib A d ∧ nib A d ≤ 15 := by
  have := h.2 (d / 2)
  unfold nib
  split <;> omega
theorem dig_bd {A : List Int} (h : Oct A) (u : Int) (d : Nat) : 48 ≤ dig A u d ∧ dig A u d ≤ 102 := by
  have := nib_bd h d
  unfold dig
  split
  · omega
  · split <;> omega
theorem sp_bd {A : List Int} (h : Oct A) (u : Int) : ∀ d, ∀ z ∈ sp A u d, 0 ≤ z ∧ z ≤ 255
  | 0 => by simp [sp]
  | d + 1 => by
    intro z hz
    simp only [sp, List.mem_append, List.mem_singleton] at hz
    rcases hz with hz | hz | hz
    · exact sp_bd h u d z hz
    · unfold pre at hz
      split at hz <;> simp at hz
      omega
    · have := dig_bd h u d
      omega
theorem dig1 {A : List Int} {u n : Int} {d : Nat} (hn : nib A d = n) (h : n < 10) : 48 + n = dig A u d := by
  unfold dig; rw [hn, if_pos h]
theorem dig2 {A : List Int} {u n : Int} {d : Nat} (hn : nib A d = n) (h : 10 ≤ n) (hb : (bits BinOp.and IntKind.u32 (u / 2 ^ d) 1 == 1) = true) : 65 + n - 10 = dig A u d := by
  unfold dig; rw [hn, if_neg (by omega), if_pos hb]
theorem dig3 {A : List Int} {u n : Int} {d : Nat} (hn : nib A d = n) (h : 10 ≤ n) (hb : (bits BinOp.and IntKind.u32 (u / 2 ^ d) 1 == 1) = false) : 97 + n - 10 = dig A u d := by
  unfold dig; rw [hn, if_neg (by omega), if_neg (by rw [hb]; decide)]

theorem hex_dec (c : Int) (w : World) (h1 : 48 ≤ c) (h2 : c ≤ 57) : Calls Tryd.prog 11 #[.int .u8 c] w fun e w' => e = .returned (.tuple #[.int .i64 (c - 48), .bool true]) ∧ w' = w := by
  go_enter Tryd.func11, Tryd.ntmps11
  go_wp2
  go_returns
  exact ⟨rfl, rfl⟩
theorem hex_low (c : Int) (w : World) (h1 : 97 ≤ c) (h2 : c ≤ 102) : Calls Tryd.prog 11 #[.int .u8 c] w fun e w' => e = .returned (.tuple #[.int .i64 (c - 97 + 10), .bool true]) ∧ w' = w := by
  go_enter Tryd.func11, Tryd.ntmps11
  go_wp2
  go_returns
  exact ⟨rfl, rfl⟩


theorem info5 : ∃ i, Tryd.prog.info? 5 = some i ∧ i.size = 1 ∧ i.zero = some (.int .u8 0) ∧ i.bytes = 1 := by
  have h : (Tryd.prog.info? 5).map (fun i => (i.size, i.zero, i.bytes)) = some (1, some (.int .u8 0), 1) := by kernel_rfl
  obtain ⟨i, hi, hz⟩ := Option.map_eq_some_iff.1 h
  simp only [Prod.mk.injEq] at hz
  exact ⟨i, hi, hz.1, hz.2.1, hz.2.2⟩
/-- make([]byte, 0, 36). -/
theorem make36 (w : World) : (Instr.makeSlice 35 (.int .i64 0) (.int .i64 36)).run Tryd.prog w = .ok (.slice (some ⟨w.heap.size, 0, none⟩) 0 36) (w.alloc (.cells (madeCells #[.int .u8 0] 36) 5)) := by
  obtain ⟨i, hi, hz, h0, hb⟩ := info5
  have h := run_make (P := Tryd.prog) w 35 5 i (.int .u8 0) Tryd.underlying35 hi h0 .i64 .i64 0 36 (by omega) (by omega) (by rw [hb]; omega) (by omega)
  rw [h, hz]
  rfl
/-- A slice that the call has made holds l; below B nothing has turned. -/
def Own (B : Nat) (W : World) (v : Value) (l : List Int) (wr : World) : Prop := wr.ownsRow B 5 1 v l.length (l.map (Value.int .u8)) ∧ Below B W wr ∧ B ≤ wr.heap.size
theorem Own.start (W : World) : Own W.heap.size W (.slice (some ⟨W.heap.size, 0, none⟩) 0 36) [] (W.alloc (.cells (madeCells #[.int .u8 0] 36) 5)) :=
  ⟨World.ownsRow_made W _ 36 (Nat.le_refl _) (by decide) (by rw [size_madeCells]), (Below.refl _ _).alloc (Nat.le_refl _) _, by simp⟩
theorem wpList_app1 {wr : World} {ops : Array Oper} {rest : List Oper} {o : Oper} {a : Act} {Q : Exit → Act → World → Prop} (hgd : o.guard = none) (s x : Operand)
    (ho : o.op = .call { callee := .builtin .append, args := #[s, x], argTypes := #[35, 35] }) (B : Nat) (W : World) (v : Value) (l : List Int) (z : Int) (hs : a.eval s = v) (H : Own B W v l wr)
    (hx : a.eval x = .slice (some ⟨wr.heap.size, 0, none⟩) 1 1) (hl : l.length ≤ 100)
    (h : ∀ v' w', Own B W v' (l ++ [z]) w' → wpList Tryd.prog ops Q rest (a.put o.dst v') w') : wpList Tryd.prog ops Q (o :: rest) a (wr.alloc (.cells #[.int .u8 z] 5)) := by
  obtain ⟨i, hi, hz, h0, hb⟩ := info5
  obtain ⟨hown, hbel, hB⟩ := H
  refine wpList_append_own _ hgd s x 35 ho B 5 i (.int .u8 0) 1 1 Tryd.underlying35 hi h0 hz hb rfl (by decide) v l.length _ hs (hown.alloc _) ⟨wr.heap.size, 0, none⟩ 1 1 [.int .u8 z] hx rfl (fun j u hj => ?_) (fun u hu => ?_) (by unfold maxLen; omega) (by omega) (by simp; omega) (fun v' w' h1 h2 _ => h v' w' ⟨?_, ?_, ?_⟩)
  · match j, hj with
    | 0, hj => simp at hj; subst hj; simp [Addr.add]
  · simp at hu; subst hu; rfl
  · simpa using h1
  · exact (hbel.alloc hB _).grown h2 (by simp; omega) (fun k hk => (hown.lt k hk).1)
  · have := h2.size
    simp at this
    omega
theorem Own.cell {B : Nat} {W : World} {v : Value} {l : List Int} {wr : World} (h : Own B W v l wr) {b j : Nat} {u : Value} (hb : b < B) (hc : W.cell? ⟨b, j, none⟩ = some u) : wr.cell? ⟨b, j, none⟩ = some u := by
  rw [h.2.1.cell hb]; exact hc
theorem Own.back {B : Nat} {W : World} {v : Value} {l : List Int} {wr : World} (h : Own B W v l wr) (h0 : l ≠ []) (hr : ∀ z ∈ l, 0 ≤ z ∧ z ≤ 255) :
    (convert 35 9 v).run Tryd.prog wr = .ok (.string ⟨(l.map fun z => UInt8.ofNat z.toNat).toArray⟩) wr := by
  have hown := h.1
  obtain ⟨ho, _, _⟩ := h
  unfold World.ownsRow at ho
  obtain ⟨_, ⟨_, he⟩ | ⟨g, cap, cur, rfl, _⟩⟩ := ho
  · exact absurd (List.eq_nil_of_length_eq_zero he) h0
  · have hc := hown.cells (g := g) rfl
    have e : l.length = (l.map fun z => UInt8.ofNat z.toNat).length := by simp
    rw [e]
    refine run_convert_bytes_back wr 35 9 5 ⟨g, 0, none⟩ cap _ Tryd.underlying35 Tryd.underlying5 Tryd.underlying9 (fun j hj => ?_)
    have hj' : j < l.length := by simpa using hj
    have hz := hr l[j] (List.getElem_mem hj')
    rw [hc j (.int .u8 l[j]) (by simp [hj'])]
    simp
    omega
theorem Own.next {B : Nat} {W : World} {v : Value} {L : List Int} {wr : World} {A : List Int} {u z : Int} {d : Nat} (H : Own B W v (L ++ [z]) wr) (hL : L = sp A u d) (hp : pre d = []) (hz : z = dig A u d) : Own B W v (sp A u (d + 1)) wr := by
  rw [sp, hp, ← hL, ← hz]; exact H
theorem Own.next' {B : Nat} {W : World} {v : Value} {L : List Int} {wr : World} {A : List Int} {u z : Int} {d : Nat} (H : Own B W v (L ++ [45] ++ [z]) wr) (hL : L = sp A u d) (hp : pre d = [45]) (hz : z = dig A u d) : Own B W v (sp A u (d + 1)) wr := by
  rw [sp, hp, ← hL, ← hz, ← List.append_assoc]; exact H

set_option maxHeartbeats 1000000 in
theorem spell_any (A : List Int) (u : Int) (w : World) (hA : Oct A) (_hu : 0 ≤ u ∧ u ≤ 4294967295) :
    Calls Tryd.prog 8 #[.agg (A.map (Value.int .u8)).toArray, .int .u32 u] w fun e w' => e = .returned (.string ⟨((sp A u 32).map fun z => UInt8.ofNat z.toNat).toArray⟩) ∧ Below w.heap.size w w' := by
  have hmk := make36 (w.alloc (.cells (A.map (Value.int .u8)).toArray 25))
  have hW0 : ∀ j, j < 16 → (w.alloc (.cells (A.map (Value.int .u8)).toArray 25)).cell? ⟨w.heap.size, j, none⟩ = some (.int .u8 (A.getD j 0)) := by
    intro j hj
    have := hA.1
    simp [this, hj]
  have HW := Hid.mk hW0
  clear hW0
  have HS := Hid.mk (Own.start (w.alloc (.cells (A.map (Value.int .u8)).toArray 25)))
  obtain ⟨W, hW⟩ : ∃ W, W = w.alloc (.cells (A.map (Value.int .u8)).toArray 25) := ⟨_, rfl⟩
  obtain ⟨B, hB⟩ : ∃ B, B = W.heap.size := ⟨_, rfl⟩
  go_enter Tryd.func8, Tryd.ntmps8
  go_wp2
  go_loopw [5, 6] (fun v i wr => ∃ d : Nat, d ≤ 32 ∧ i = .int .i64 d ∧ Own B W v (sp A u d) wr) (fun _ i _ => 32 - (RowKit.intOf i).toNat)
  case atStart =>
    have := HS.out
    rw [← hW, ← hB] at this
    refine ⟨0, by omega, rfl, ?_⟩
    have e : w.heap.size + 1 = B := by rw [hB, hW]; simp
    rw [← hW, e]
    exact this
  case round =>
    obtain ⟨d, hd, rfl, H⟩ := hrel
    have hl0 := sp_len A u d hd
    obtain ⟨L, hL⟩ : ∃ L, L = sp A u d := ⟨_, rfl⟩
    rw [← hL] at H hl0
    have HL := Hid.mk hL
    clear hL
    have hl : L.length ≤ 36 := by omega
    clear hl0
    by_cases h32 : d < 32
    · have hc := H.cell (b := w.heap.size) (by rw [hB, hW]; simp) (by rw [hW]; exact HW.out (d / 2) (by omega))
      obtain ⟨x, hx⟩ : ∃ x, x = A.getD (d / 2) 0 := ⟨_, rfl⟩
      have hx0 := hA.2 (d / 2)
      rw [← hx] at hc hx0
      have HX := Hid.mk hx
      clear hx
      by_cases hy : d = 8 ∨ d = 12 ∨ d = 16 ∨ d = 20
      · clear hc
        rcases hy with rfl | rfl | rfl | rfl
        · have HP := Hid.mk (show pre 8 = [45] from rfl)
          have HN := Hid.mk (show nib A 8 = x / 16 by unfold nib; rw [if_pos (by decide), ← HX.out])
          go_wp2_with (first
            | (at_builtin; refine wpList_app1 rfl (.tmp 27) (.tmp 28) rfl B W _ _ _ rfl (by assumption) rfl (by omega) ?_; intro v1 w1 H1; have hc1 := H1.cell (b := w.heap.size) (by rw [hB, hW]; simp) (by rw [hW]; exact HW.out (8 / 2) (by omega)); rw [← HX.out] at hc1)
            | (at_builtin; refine wpList_app1 rfl (.tmp 45) (.tmp 48) rfl B W _ _ _ rfl (by assumption) rfl (by first | omega | (simp; omega)) ?_; intro v2 w2 H2; clear H H1 hc1)
            | (at_builtin; refine wpList_app1 rfl (.tmp 56) (.tmp 60) rfl B W _ _ _ rfl (by assumption) rfl (by first | omega | (simp; omega)) ?_; intro v2 w2 H2; clear H H1 hc1)
            | (at_builtin; refine wpList_app1 rfl (.tmp 62) (.tmp 66) rfl B W _ _ _ rfl (by assumption) rfl (by first | omega | (simp; omega)) ?_; intro v2 w2 H2; clear H H1 hc1)
            | go_in)
          all_goals go_roundw
          case rel => exact ⟨8 + 1, by omega, by go_num, H2.next' HL.out HP.out (dig1 HN.out (by assumption))⟩
          case rel => exact ⟨8 + 1, by omega, by go_num, H2.next' HL.out HP.out (dig2 HN.out (by assumption) (by assumption))⟩
          case rel => exact ⟨8 + 1, by omega, by go_num, H2.next' HL.out HP.out (dig3 HN.out (by assumption) (by assumption))⟩
          all_goals (simp [RowKit.intOf]; try omega)
        · have HP := Hid.mk (show pre 12 = [45] from rfl)
          have HN := Hid.mk (show nib A 12 = x / 16 by unfold nib; rw [if_pos (by decide), ← HX.out])
          go_wp2_with (first
            | (at_builtin; refine wpList_app1 rfl (.tmp 27) (.tmp 28) rfl B W _ _ _ rfl (by assumption) rfl (by omega) ?_; intro v1 w1 H1; have hc1 := H1.cell (b := w.heap.size) (by rw [hB, hW]; simp) (by rw [hW]; exact HW.out (12 / 2) (by omega)); rw [← HX.out] at hc1)
            | (at_builtin; refine wpList_app1 rfl (.tmp 45) (.tmp 48) rfl B W _ _ _ rfl (by assumption) rfl (by first | omega | (simp; omega)) ?_; intro v2 w2 H2; clear H H1 hc1)
            | (at_builtin; refine wpList_app1 rfl (.tmp 56) (.tmp 60) rfl B W _ _ _ rfl (by assumption) rfl (by first | omega | (simp; omega)) ?_; intro v2 w2 H2; clear H H1 hc1)
            | (at_builtin; refine wpList_app1 rfl (.tmp 62) (.tmp 66) rfl B W _ _ _ rfl (by assumption) rfl (by first | omega | (simp; omega)) ?_; intro v2 w2 H2; clear H H1 hc1)
            | go_in)
          all_goals go_roundw
          case rel => exact ⟨12 + 1, by omega, by go_num, H2.next' HL.out HP.out (dig1 HN.out (by assumption))⟩
          case rel => exact ⟨12 + 1, by omega, by go_num, H2.next' HL.out HP.out (dig2 HN.out (by assumption) (by assumption))⟩
          case rel => exact ⟨12 + 1, by omega, by go_num, H2.next' HL.out HP.out (dig3 HN.out (by assumption) (by assumption))⟩
          all_goals (simp [RowKit.intOf]; try omega)
        · have HP := Hid.mk (show pre 16 = [45] from rfl)
          have HN := Hid.mk (show nib A 16 = x / 16 by unfold nib; rw [if_pos (by decide), ← HX.out])
          go_wp2_with (first
            | (at_builtin; refine wpList_app1 rfl (.tmp 27) (.tmp 28) rfl B W _ _ _ rfl (by assumption) rfl (by omega) ?_; intro v1 w1 H1; have hc1 := H1.cell (b := w.heap.size) (by rw [hB, hW]; simp) (by rw [hW]; exact HW.out (16 / 2) (by omega)); rw [← HX.out] at hc1)
            | (at_builtin; refine wpList_app1 rfl (.tmp 45) (.tmp 48) rfl B W _ _ _ rfl (by assumption) rfl (by first | omega | (simp; omega)) ?_; intro v2 w2 H2; clear H H1 hc1)
            | (at_builtin; refine wpList_app1 rfl (.tmp 56) (.tmp 60) rfl B W _ _ _ rfl (by assumption) rfl (by first | omega | (simp; omega)) ?_; intro v2 w2 H2; clear H H1 hc1)
            | (at_builtin; refine wpList_app1 rfl (.tmp 62) (.tmp 66) rfl B W _ _ _ rfl (by assumption) rfl (by first | omega | (simp; omega)) ?_; intro v2 w2 H2; clear H H1 hc1)
            | go_in)
          all_goals go_roundw
          case rel => exact ⟨16 + 1, by omega, by go_num, H2.next' HL.out HP.out (dig1 HN.out (by assumption))⟩
          case rel => exact ⟨16 + 1, by omega, by go_num, H2.next' HL.out HP.out (dig2 HN.out (by assumption) (by assumption))⟩
          case rel => exact ⟨16 + 1, by omega, by go_num, H2.next' HL.out HP.out (dig3 HN.out (by assumption) (by assumption))⟩
          all_goals (simp [RowKit.intOf]; try omega)
        · have HP := Hid.mk (show pre 20 = [45] from rfl)
          have HN := Hid.mk (show nib A 20 = x / 16 by unfold nib; rw [if_pos (by decide), ← HX.out])
          go_wp2_with (first
            | (at_builtin; refine wpList_app1 rfl (.tmp 27) (.tmp 28) rfl B W _ _ _ rfl (by assumption) rfl (by omega) ?_; intro v1 w1 H1; have hc1 := H1.cell (b := w.heap.size) (by rw [hB, hW]; simp) (by rw [hW]; exact HW.out (20 / 2) (by omega)); rw [← HX.out] at hc1)
            | (at_builtin; refine wpList_app1 rfl (.tmp 45) (.tmp 48) rfl B W _ _ _ rfl (by assumption) rfl (by first | omega | (simp; omega)) ?_; intro v2 w2 H2; clear H H1 hc1)
            | (at_builtin; refine wpList_app1 rfl (.tmp 56) (.tmp 60) rfl B W _ _ _ rfl (by assumption) rfl (by first | omega | (simp; omega)) ?_; intro v2 w2 H2; clear H H1 hc1)
            | (at_builtin; refine wpList_app1 rfl (.tmp 62) (.tmp 66) rfl B W _ _ _ rfl (by assumption) rfl (by first | omega | (simp; omega)) ?_; intro v2 w2 H2; clear H H1 hc1)
            | go_in)
          all_goals go_roundw
          case rel => exact ⟨20 + 1, by omega, by go_num, H2.next' HL.out HP.out (dig1 HN.out (by assumption))⟩
          case rel => exact ⟨20 + 1, by omega, by go_num, H2.next' HL.out HP.out (dig2 HN.out (by assumption) (by assumption))⟩
          case rel => exact ⟨20 + 1, by omega, by go_num, H2.next' HL.out HP.out (dig3 HN.out (by assumption) (by assumption))⟩
          all_goals (simp [RowKit.intOf]; try omega)
      · have n8 : ((d : Int) == 8) = false := by rw [beq_eq_false_iff_ne]; omega
        have n12 : ((d : Int) == 12) = false := by rw [beq_eq_false_iff_ne]; omega
        have n16 : ((d : Int) == 16) = false := by rw [beq_eq_false_iff_ne]; omega
        have n20 : ((d : Int) == 20) = false := by rw [beq_eq_false_iff_ne]; omega
        have HP := Hid.mk (show pre d = [] by unfold pre; rw [if_neg hy])
        have hq : (d : Int).tdiv 2 = ((d / 2 : Nat) : Int) := by rw [Int.tdiv_eq_ediv_of_nonneg (by omega)]; omega
        obtain ⟨m, hm⟩ : ∃ m, m = d / 2 := ⟨_, rfl⟩
        have hmb : m < 16 := by omega
        rw [← hm] at hc hq
        by_cases h2 : d % 2 = 0
        · have HN := Hid.mk (show nib A d = x / 16 by unfold nib; rw [if_pos h2, ← HX.out])
          have hr : (d : Int).tmod 2 = 0 := by rw [Int.tmod_eq_emod_of_nonneg (by omega)]; omega
          clear h2 hy hm
          go_wp2_with (first
            | (at_builtin; refine wpList_app1 rfl (.tmp 45) (.tmp 48) rfl B W _ _ _ rfl (by assumption) rfl (by first | omega | (simp; omega)) ?_; intro v2 w2 H2; clear H hc)
            | (at_builtin; refine wpList_app1 rfl (.tmp 56) (.tmp 60) rfl B W _ _ _ rfl (by assumption) rfl (by first | omega | (simp; omega)) ?_; intro v2 w2 H2; clear H hc)
            | (at_builtin; refine wpList_app1 rfl (.tmp 62) (.tmp 66) rfl B W _ _ _ rfl (by assumption) rfl (by first | omega | (simp; omega)) ?_; intro v2 w2 H2; clear H hc)
            | go_in)
          all_goals go_roundw
          case rel => exact ⟨d + 1, by omega, by go_num, H2.next HL.out HP.out (dig1 HN.out (by assumption))⟩
          case rel => exact ⟨d + 1, by omega, by go_num, H2.next HL.out HP.out (dig2 HN.out (by assumption) (by assumption))⟩
          case rel => exact ⟨d + 1, by omega, by go_num, H2.next HL.out HP.out (dig3 HN.out (by assumption) (by assumption))⟩
          all_goals (simp [RowKit.intOf]; try omega)
        · have HN := Hid.mk (show nib A d = x % 16 by unfold nib; rw [if_neg h2, ← HX.out])
          have hr : (d : Int).tmod 2 = 1 := by rw [Int.tmod_eq_emod_of_nonneg (by omega)]; omega
          clear h2 hy hm
          go_wp2_with (first
            | (at_builtin; refine wpList_app1 rfl (.tmp 45) (.tmp 48) rfl B W _ _ _ rfl (by assumption) rfl (by first | omega | (simp; omega)) ?_; intro v2 w2 H2; clear H hc)
            | (at_builtin; refine wpList_app1 rfl (.tmp 56) (.tmp 60) rfl B W _ _ _ rfl (by assumption) rfl (by first | omega | (simp; omega)) ?_; intro v2 w2 H2; clear H hc)
            | (at_builtin; refine wpList_app1 rfl (.tmp 62) (.tmp 66) rfl B W _ _ _ rfl (by assumption) rfl (by first | omega | (simp; omega)) ?_; intro v2 w2 H2; clear H hc)
            | go_in)
          all_goals go_roundw
          case rel => exact ⟨d + 1, by omega, by go_num, H2.next HL.out HP.out (dig1 HN.out (by assumption))⟩
          case rel => exact ⟨d + 1, by omega, by go_num, H2.next HL.out HP.out (dig2 HN.out (by assumption) (by assumption))⟩
          case rel => exact ⟨d + 1, by omega, by go_num, H2.next HL.out HP.out (dig3 HN.out (by assumption) (by assumption))⟩
          all_goals (simp [RowKit.intOf]; try omega)
    · obtain rfl : d = 32 := by omega
      have hk := H.back (by intro e; have := sp_len' A u 32; rw [← HL.out, e] at this; simp at this) (by rw [HL.out]; exact sp_bd hA u 32)
      go_wp2
      go_ret
      refine ⟨by rw [← HL.out]; rfl, ?_⟩
      have h1 := H.2.1
      have h0 : Below w.heap.size w W := by rw [hW]; exact (Below.refl _ _).alloc (Nat.le_refl _) _
      exact h0.trans (h1.mono (by rw [hB]; exact h0.size))
end Go.Proofs.Qxb6605569aDoor
