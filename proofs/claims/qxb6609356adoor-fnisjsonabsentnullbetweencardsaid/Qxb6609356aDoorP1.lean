import Derived.Lib.SpaceUEq
import Derived.Lib.TrimUEq
namespace Go.Proofs.Qxb6609356aDoor
open Go.Lib

/-- White space alone: a run of the 25 encodings. -/
def WS (l : List UInt8) : Prop := ∃ cs : List (List UInt8), (∀ c ∈ cs, c ∈ spaceSeqs) ∧ l = cs.flatten
theorem ws_nil : WS [] := ⟨[], by simp, rfl⟩
theorem ws_cons {c l : List UInt8} (hc : c ∈ spaceSeqs) (h : WS l) : WS (c ++ l) := by
  obtain ⟨cs, h1, rfl⟩ := h
  exact ⟨c :: cs, by simpa using ⟨hc, h1⟩, by simp⟩
theorem ws_snoc {c l : List UInt8} (hc : c ∈ spaceSeqs) (h : WS l) : WS (l ++ c) := by
  obtain ⟨cs, h1, rfl⟩ := h
  refine ⟨cs ++ [c], ?_, by simp⟩
  intro d hd
  rcases List.mem_append.1 hd with hd | hd
  · exact h1 d hd
  · rw [List.mem_singleton.1 hd]; exact hc
theorem ws_app {a b : List UInt8} (h1 : WS a) (h2 : WS b) : WS (a ++ b) := by
  obtain ⟨cs, g1, rfl⟩ := h1
  obtain ⟨ds, g2, rfl⟩ := h2
  exact ⟨cs ++ ds, fun c hc => (List.mem_append.1 hc).elim (g1 c) (g2 c), by simp⟩

theorem seqs_ne : ∀ c ∈ spaceSeqs, c ≠ [] := by decide
theorem seqs_pre : ∀ c ∈ spaceSeqs, ∀ d ∈ spaceSeqs, c.isPrefixOf d = true → c = d := by decide +kernel
theorem seqs_suf : ∀ c ∈ spaceSeqs, ∀ d ∈ spaceSeqs, c.isSuffixOf d = true → c = d := by decide +kernel
theorem seqs_byte : ∀ c ∈ spaceSeqs, ∀ b ∈ c, b.toNat ≤ 32 ∨ 128 ≤ b.toNat := by decide

theorem ws_byte {l : List UInt8} (h : WS l) : ∀ b ∈ l, b.toNat ≤ 32 ∨ 128 ≤ b.toNat := by
  obtain ⟨cs, h1, rfl⟩ := h
  intro b hb
  obtain ⟨c, hc, hbc⟩ := List.mem_flatten.1 hb
  exact seqs_byte c (h1 c hc) b hbc

/-- Two encodings at one head are one. -/
theorem pre_eq {c d x y : List UInt8} (hc : c ∈ spaceSeqs) (hd : d ∈ spaceSeqs) (h : c ++ x = d ++ y) : c = d := by
  rcases Nat.le_total c.length d.length with hl | hl
  · refine seqs_pre c hc d hd ?_
    rw [List.isPrefixOf_iff_prefix]
    exact List.prefix_of_prefix_length_le (List.prefix_append c x) (h ▸ List.prefix_append d y) hl
  · refine (seqs_pre d hd c hc ?_).symm
    rw [List.isPrefixOf_iff_prefix]
    exact List.prefix_of_prefix_length_le (List.prefix_append d y) (h ▸ List.prefix_append c x) hl
theorem suf_eq {c d x y : List UInt8} (hc : c ∈ spaceSeqs) (hd : d ∈ spaceSeqs) (h : x ++ c = y ++ d) : c = d := by
  rcases Nat.le_total c.length d.length with hl | hl
  · refine seqs_suf c hc d hd ?_
    rw [List.isSuffixOf_iff_suffix]
    exact List.suffix_of_suffix_length_le (List.suffix_append x c) (h ▸ List.suffix_append y d) hl
  · refine (seqs_suf d hd c hc ?_).symm
    rw [List.isSuffixOf_iff_suffix]
    exact List.suffix_of_suffix_length_le (List.suffix_append y d) (h ▸ List.suffix_append x c) hl

/-- White space struck from the left of white space leaves white space. -/
theorem ws_left : ∀ (cs : List (List UInt8)) (x : List UInt8), (∀ c ∈ cs, c ∈ spaceSeqs) → WS (cs.flatten ++ x) → WS x
  | [], x, _, h => by simpa using h
  | c :: cs, x, hc, h => by
    obtain ⟨ds, hd, e⟩ := h
    cases ds with
    | nil =>
      have : c = [] := by
        have h2 := e
        simp at h2
        exact h2.1
      exact absurd this (seqs_ne c (hc c (by simp)))
    | cons d ds =>
      have e2 : c ++ (cs.flatten ++ x) = d ++ ds.flatten := by simpa using e
      have hcd := pre_eq (hc c (by simp)) (hd d (by simp)) e2
      subst hcd
      have e3 := List.append_cancel_left e2
      exact ws_left cs x (fun c' h' => hc c' (by simp [h'])) ⟨ds, fun d' h' => hd d' (by simp [h']), e3⟩
theorem ws_cancel_left {a x : List UInt8} (ha : WS a) (h : WS (a ++ x)) : WS x := by
  obtain ⟨cs, hc, rfl⟩ := ha
  exact ws_left cs x hc h

theorem flat_snoc (cs : List (List UInt8)) (c : List UInt8) : (cs ++ [c]).flatten = cs.flatten ++ c := by simp
theorem ws_right (n : Nat) : ∀ (cs : List (List UInt8)) (x : List UInt8), cs.length = n → (∀ c ∈ cs, c ∈ spaceSeqs) → WS (x ++ cs.flatten) → WS x := by
  induction n with
  | zero => intro cs x hn _ h; have : cs = [] := List.length_eq_zero_iff.1 hn; subst this; simpa using h
  | succ n ih =>
    intro cs x hn hc h
    have hne : cs ≠ [] := by intro e; subst e; simp at hn
    obtain ⟨cs', c, rfl⟩ : ∃ cs' c, cs = cs' ++ [c] := ⟨cs.dropLast, cs.getLast hne, (List.dropLast_concat_getLast hne).symm⟩
    rw [flat_snoc] at h
    obtain ⟨ds, hd, e⟩ := h
    by_cases hds : ds = []
    · subst hds
      have : c = [] := by
        have h2 := congrArg List.length e
        simp at h2
        exact h2.2.2
      exact absurd this (seqs_ne c (hc c (by simp)))
    · obtain ⟨ds', d, rfl⟩ : ∃ ds' d, ds = ds' ++ [d] := ⟨ds.dropLast, ds.getLast hds, (List.dropLast_concat_getLast hds).symm⟩
      rw [flat_snoc, ← List.append_assoc] at e
      have hcd := suf_eq (hc c (by simp)) (hd d (by simp)) e
      subst hcd
      have e3 := List.append_cancel_right e
      exact ih cs' x (by simpa using hn) (fun c' h' => hc c' (by simp [h'])) ⟨ds', fun d' h' => hd d' (by simp [h']), e3⟩
theorem ws_cancel_right {a x : List UInt8} (ha : WS a) (h : WS (x ++ a)) : WS x := by
  obtain ⟨cs, hc, rfl⟩ := ha
  exact ws_right cs.length cs x rfl hc h

/-- No encoding stands at the head; at the end. -/
def NoHead (l : List UInt8) : Prop := ∀ c ∈ spaceSeqs, ∀ x, l ≠ c ++ x
def NoTail (l : List UInt8) : Prop := ∀ c ∈ spaceSeqs, ∀ x, l ≠ x ++ c
theorem ws_nohead {l y : List UInt8} (h : WS l) (hn : NoHead (l ++ y)) : l = [] := by
  obtain ⟨cs, hc, rfl⟩ := h
  cases cs with
  | nil => rfl
  | cons c cs => exact absurd (by simp) (hn c (hc c (by simp)) (cs.flatten ++ y))
theorem ws_notail {l y : List UInt8} (h : WS l) (hn : NoTail (y ++ l)) : l = [] := by
  obtain ⟨cs, hc, rfl⟩ := h
  by_cases hcs : cs = []
  · subst hcs; rfl
  · obtain ⟨cs', c, rfl⟩ : ∃ cs' c, cs = cs' ++ [c] := ⟨cs.dropLast, cs.getLast hcs, (List.dropLast_concat_getLast hcs).symm⟩
    exact absurd (by simp) (hn c (hc c (by simp)) (y ++ cs'.flatten))

/-- What is left of l when white space is struck from both ends. -/
def Trimmed (l T : List UInt8) : Prop := ∃ A B, l = A ++ (T ++ B) ∧ WS A ∧ WS B ∧ NoHead T ∧ NoTail T
def nul : List UInt8 := [110, 117, 108, 108]
/-- The word null with white space around it. -/
def Abs (l : List UInt8) : Prop := ∃ A B, l = A ++ (nul ++ B) ∧ WS A ∧ WS B

theorem nul_letters : ∀ b ∈ nul, ¬ (b.toNat ≤ 32 ∨ 128 ≤ b.toNat) := by decide

/-- A letter's place: what stands before the first and behind the last letter. -/
theorem split_letters {A A' C C' : List UInt8} {n : UInt8} (h : A ++ n :: C = A' ++ C') (hA' : n ∉ A') : ∃ X, A = A' ++ X ∧ C' = X ++ n :: C := by
  rcases List.append_eq_append_iff.1 h with ⟨X, h1, h2⟩ | ⟨X, h1, h2⟩
  · cases X with
    | nil => exact ⟨[], by simpa using h1.symm, by simpa using h2.symm⟩
    | cons x X =>
      simp at h2
      exact absurd (by rw [h1, h2.1]; simp) hA'
  · exact ⟨X, h1, h2⟩

theorem no_letter {l : List UInt8} (h : WS l) {b : UInt8} (hb : ¬ (b.toNat ≤ 32 ∨ 128 ≤ b.toNat)) : b ∉ l := fun hm => hb (ws_byte h b hm)

/-- Where null stands between white space, it is what is left. -/
theorem abs_trimmed {l T : List UInt8} (ha : Abs l) (ht : Trimmed l T) : T = nul := by
  obtain ⟨A, B, rfl, hA, hB⟩ := ha
  obtain ⟨A', B', e, hA', hB', hh, hn⟩ := ht
  have e1 : A ++ 110 :: ([117, 108, 108] ++ B) = A' ++ (T ++ B') := by simpa [nul] using e
  obtain ⟨X, hX, hT⟩ := split_letters e1 (no_letter hA' (by decide))
  -- the last letter
  have e2 : (X ++ [110, 117, 108]) ++ 108 :: B = T ++ B' := by rw [hT]; simp
  have e3 : B.reverse ++ 108 :: (X ++ [110, 117, 108]).reverse = B'.reverse ++ T.reverse := by
    have := congrArg List.reverse e2
    simpa using this
  obtain ⟨Y, hY, hT2⟩ := split_letters e3 (by simpa using no_letter hB' (by decide : ¬ ((108 : UInt8).toNat ≤ 32 ∨ 128 ≤ (108 : UInt8).toNat)))
  have hB2 : B = Y.reverse ++ B' := by
    have := congrArg List.reverse hY
    simpa using this
  have hT3 : T = X ++ (nul ++ Y.reverse) := by
    have := congrArg List.reverse hT2
    simpa [nul] using this
  have wX : WS X := ws_cancel_left hA' (by rw [← hX]; exact hA)
  have wY : WS Y.reverse := ws_cancel_right hB' (by rw [← hB2]; exact hB)
  have x0 : X = [] := ws_nohead wX (by rw [← hT3]; exact hh)
  have y0 : Y.reverse = [] := ws_notail (y := X ++ nul) wY (by rw [List.append_assoc, ← hT3]; exact hn)
  rw [hT3, x0, y0]; rfl
theorem trimmed_abs {l : List UInt8} (ht : Trimmed l nul) : Abs l := by
  obtain ⟨A, B, e, hA, hB, _, _⟩ := ht
  exact ⟨A, B, e, hA, hB⟩
theorem trimmed_iff {l T : List UInt8} (ht : Trimmed l T) : T = nul ↔ Abs l :=
  ⟨fun h => trimmed_abs (h ▸ ht), fun h => abs_trimmed h ht⟩

/-- null between two copies of raw is absent just where raw is white space. -/
theorem between (raw : List UInt8) : Abs (raw ++ (nul ++ raw)) ↔ WS raw := by
  constructor
  · rintro ⟨A, B, e, hA, hB⟩
    have hl := congrArg List.length e
    simp [nul] at hl
    have e1 : raw ++ 110 :: ([117, 108, 108] ++ raw) = A ++ (nul ++ B) := by simpa [nul] using e
    obtain ⟨X, hX, hT⟩ := split_letters e1 (no_letter hA (by decide))
    -- raw = A ++ X
    cases X with
    | nil => rw [hX]; simpa using hA
    | cons x X =>
      -- then raw holds an n, and raw is the end of B
      have hx : x = 110 := by
        have := congrArg List.head? hT
        simpa [nul] using this.symm
      have hlen : raw.length ≤ B.length := by
        have := congrArg List.length hX
        simp at this; omega
      have e2 : (A ++ nul) ++ B = (raw ++ nul) ++ raw := by simpa using e.symm
      have hsuf : raw <:+ B := List.suffix_of_suffix_length_le (e2 ▸ List.suffix_append _ raw) (List.suffix_append _ B) hlen
      have hmem : (110 : UInt8) ∈ B := hsuf.subset (by rw [hX, hx]; simp)
      exact absurd hmem (no_letter hB (by decide))
  · intro h
    exact ⟨raw, raw, rfl, h, h⟩

/-- A blank ahead and a line feed behind change nothing. -/
theorem padded (raw : List UInt8) : Abs (32 :: (raw ++ [10])) ↔ Abs raw := by
  constructor
  · rintro ⟨A, B, e, hA, hB⟩
    obtain ⟨cs, hc, rfl⟩ := hA
    cases cs with
    | nil => simp [nul] at e
    | cons c cs =>
      have e1 : [32] ++ (raw ++ [10]) = c ++ (cs.flatten ++ (nul ++ B)) := by simpa using e
      have hcc := pre_eq (by decide) (hc c (by simp)) e1
      subst hcc
      have e2 : raw ++ [10] = cs.flatten ++ (nul ++ B) := List.append_cancel_left e1
      obtain ⟨ds, hd, rfl⟩ := hB
      by_cases hds : ds = []
      · subst hds
        have h2 := congrArg List.getLast? e2
        simp [nul] at h2
      · obtain ⟨ds', d, rfl⟩ : ∃ ds' d, ds = ds' ++ [d] := ⟨ds.dropLast, ds.getLast hds, (List.dropLast_concat_getLast hds).symm⟩
        have e3 : raw ++ [10] = (cs.flatten ++ (nul ++ ds'.flatten)) ++ d := by rw [e2]; simp
        have hdd := suf_eq (by decide) (hd d (by simp)) e3
        subst hdd
        have e4 := List.append_cancel_right e3
        exact ⟨cs.flatten, ds'.flatten, e4, ⟨cs, fun c h => hc c (by simp [h]), rfl⟩, ⟨ds', fun d h => hd d (by simp [h]), rfl⟩⟩
  · rintro ⟨A, B, rfl, hA, hB⟩
    exact ⟨32 :: A, B ++ [10], by simp, ws_cons (c := [32]) (by decide) hA, ws_snoc (by decide) hB⟩
end Go.Proofs.Qxb6609356aDoor
