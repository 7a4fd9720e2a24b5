import Derived.Test.Qxb6605199aDoorW8
import Derived.Deep.OwnRows
namespace Go.Proofs.Qxb6605199aDoor
open Go.RowKit Go.Lib

/-- A row of bytes that came in. -/
def Src (w : World) (A : Option Addr) (n c : Nat) (l : List UInt8) : Prop := l.length = n ∧ (A = none → n = 0 ∧ c = 0) ∧ ∀ x, A = some x → ∀ j, j < n → w.cell? (x.add j) = some (.int .u8 (ba l j))
theorem Src.below {w w' : World} {A : Option Addr} {n c : Nat} {l : List UInt8} (h : Src w A n c l) (hb : Below w.heap.size w w') : Src w' A n c l :=
  ⟨h.1, h.2.1, fun x hx j hj => by rw [hb.cell (block_lt_of_cell (h.2.2 x hx j hj))]; exact h.2.2 x hx j hj⟩
/-- What zzCopyBytes leaves. -/
def Copied (w : World) (l : List UInt8) (e : Ending) (w' : World) : Prop := ∃ A n, e = .returned (.slice A n n) ∧ Line w' (.slice A n n) l ∧ Below w.heap.size w w'
theorem copy_src (w : World) (A : Option Addr) (n c : Nat) (l : List UInt8) (h : Src w A n c l) (h63 : n ≤ 4294967296) : Calls Tryd.prog 5 #[.slice A n c] w (Copied w l) := by
  obtain ⟨h1, h2, h3⟩ := h
  cases A with
  | none =>
    obtain ⟨rfl, rfl⟩ := h2 rfl
    obtain rfl : l = [] := List.eq_nil_of_length_eq_zero h1
    refine (copy_nil w).mono ?_
    rintro e w' ⟨rfl, rfl⟩
    exact ⟨_, _, rfl, .inl ⟨rfl, rfl⟩, Below.refl _ _⟩
  | some x =>
    refine (copy_some w x n c l h1 h63 (fun j hj => h3 x rfl j (by omega))).mono ?_
    rintro e w' ⟨rfl, rfl⟩
    exact ⟨_, _, rfl, .inr ⟨_, n, rfl, h1, h63, row_BA w l⟩, (Below.refl _ w).alloc (Nat.le_refl _) _⟩
theorem Line.set {w : World} {v u : Value} {l : List UInt8} {B n i : Nat} {f : Nat → Value} (h : Line w v l) (hr : w.rowIs B 22 n f) (hn : 0 < n) (hf : ∃ A L C, f 0 = .slice A L C) : Line (w.setCell ⟨B, i, none⟩ u) v l := by
  rcases h with h | ⟨b, k, h1, h2, h3, h4⟩
  · exact .inl h
  · refine .inr ⟨b, k, h1, h2, h3, fun j hj => ?_⟩
    by_cases e : b = B
    · subst e
      have c0 := h4 0 (by omega)
      rw [Nat.zero_add, hr.cell hn] at c0
      obtain ⟨A, L, C, hf⟩ := hf
      rw [hf] at c0
      cases c0
    · rw [World.cell?_setCell_other _ _ _ _ (fun e' => e (by have := congrArg Addr.block e'; simpa using this.symm))]
      exact h4 j hj
theorem spells_line (w : World) (v : Value) (l : List UInt8) (h : Line w v l) (pat : ByteArray) (hp : pat.size ≤ 100) (hp0 : 0 < pat.size) :
    Calls Tryd.prog 8 #[v, .string pat] w fun e w' => e = .returned (.bool (sp l pat.data.toList)) ∧ w' = w := by
  rcases h with ⟨rfl, rfl⟩ | ⟨b, n, rfl, hn, hn2, hB⟩
  · have e : sp [] pat.data.toList = false := by
      have : pat.data.toList.length = pat.size := by simp
      cases hd : pat.data.toList with
      | nil => rw [hd] at this; simp at this; omega
      | cons c p => rfl
    rw [e]
    exact spells_nil w pat hp hp0
  · exact spells_some w b 0 n n l hn hn2 hB pat hp
theorem info22 : (Tryd.prog.info? 22).map (fun i => (i.zero, i.size, i.bytes)) = some (some (.slice none 0 0), 1, 24) := by kernel_rfl
/-- What holds while the words are copied. -/
def Inv (w : World) (v0 : Value) (l : List UInt8) (B wn : Nat) (l1 : List UInt8) (i : Nat) (wr : World) : Prop :=
  Below w.heap.size w wr ∧ Line wr v0 l ∧ ∃ f, wr.rowIs B 22 wn f ∧ (∀ j, ∃ A L C, f j = .slice A L C) ∧ (0 < i → Line wr (f 0) l1)
theorem Inv.start {w w1 : World} {v0 : Value} {l : List UInt8} (wn : Nat) (l1 : List UInt8) (hb : Below w.heap.size w w1) (hL : Line w1 v0 l) :
    Inv w v0 l w1.heap.size wn l1 0 (w1.alloc (.cells (madeCells #[.slice none 0 0] wn) 22)) :=
  ⟨hb.alloc hb.size _, hL.below ((Below.refl _ w1).alloc (Nat.le_refl _) _), _, World.rowIs_made w1 _ wn 22, fun _ => ⟨_, _, _, rfl⟩, fun h => by omega⟩
theorem Inv.step {w wr w3 : World} {v0 : Value} {l : List UInt8} {B wn : Nat} {l1 : List UInt8} {i : Nat} (h : Inv w v0 l B wn l1 i wr) (hB : w.heap.size ≤ B) (hi : i < wn) {A : Option Addr} {n : Nat} {li : List UInt8}
    (hL : Line w3 (.slice A n n) li) (hb : Below wr.heap.size wr w3) (h0 : i = 0 → li = l1) : Inv w v0 l B wn l1 (i + 1) (w3.setCell ⟨B, i, none⟩ (.slice A n n)) := by
  obtain ⟨hbel, hL0, f, hr, hf, h1⟩ := h
  have hr3 : w3.rowIs B 22 wn f := hr.of_block (hb.block B hr.lt)
  have hn : 0 < wn := by omega
  refine ⟨(hbel.trans (hb.mono hbel.size)).setCell hB _, (hL0.below hb).set hr3 hn (hf 0), _, hr3.set i _, fun j => ?_, fun _ => ?_⟩
  · by_cases e : j = i
    · exact ⟨_, _, _, if_pos e⟩
    · obtain ⟨A', L', C', hj⟩ := hf j
      exact ⟨A', L', C', by rw [if_neg e]; exact hj⟩
  · by_cases e : 0 = i
    · rw [if_pos e, ← h0 e.symm]
      exact hL.set hr3 hn (hf 0)
    · rw [if_neg e]
      exact ((h1 (by omega)).below hb).set hr3 hn (hf 0)
end Go.Proofs.Qxb6605199aDoor
