import Derived.Test.Qxb6609356aDoorP1
import Derived.Shelf.Spec.BytesTrimFunc
namespace Go.Proofs.Qxb6609356aDoor
open Go.Lib

theorem idx_from (s : ByteArray) : ∀ f pos, Lib.idxFuncFrom isSpaceR false s f pos = leftFrom s f pos
  | 0, _ => rfl
  | f + 1, pos => by
    unfold Lib.idxFuncFrom leftFrom
    rw [idx_from s f]
    cases h : isSpaceR (Utf8.decode s pos).1 <;> simp
theorem idx_eq (s : ByteArray) : Lib.idxFunc isSpaceR false s = leftIdx s := idx_from s s.size 0
theorem last_from (s : ByteArray) : ∀ f i, Lib.lastIdxFuncFrom isSpaceR false s f i = rightFrom s f i
  | 0, _ => rfl
  | f + 1, i => by
    unfold Lib.lastIdxFuncFrom rightFrom
    rw [last_from s f]
    cases h : isSpaceR (decodeLastL (s.data.toList.take i)).1 <;> simp
theorem last_eq (s : ByteArray) : Lib.lastIdxFunc isSpaceR false s = rightIdx s := last_from s s.size s.size
theorem end_eq (s : ByteArray) : Lib.rightEndF isSpaceR s = rightEnd s := by
  unfold Lib.rightEndF rightEnd
  rw [last_eq]

theorem head_none {l : List UInt8} (h : headSpace l = 0) : NoHead l := by
  intro c hc x e
  unfold headSpace at h
  cases hf : spaceSeqs.find? (·.isPrefixOf l) with
  | none =>
    have := List.find?_eq_none.1 hf c hc
    rw [e] at this
    simp at this
  | some d =>
    rw [hf] at h
    have hd := List.mem_of_find?_eq_some hf
    simp at h
    exact absurd h (seqs_ne d hd)
theorem tail_none {l : List UInt8} (h : tailSpace l = 0) : NoTail l := by
  intro c hc x e
  unfold tailSpace at h
  cases hf : spaceSeqs.find? (·.isSuffixOf l) with
  | none =>
    have := List.find?_eq_none.1 hf c hc
    rw [e] at this
    rw [List.isSuffixOf_iff_suffix] at this
    exact this (List.suffix_append x c)
  | some d =>
    rw [hf] at h
    have hd := List.mem_of_find?_eq_some hf
    simp at h
    exact absurd h (seqs_ne d hd)
theorem head_some {l : List UInt8} (h : headSpace l ≠ 0) : ∃ c ∈ spaceSeqs, ∃ x, l = c ++ x ∧ headSpace l = c.length := by
  unfold headSpace at h ⊢
  cases hf : spaceSeqs.find? (·.isPrefixOf l) with
  | none => rw [hf] at h; simp at h
  | some d =>
    have hd := List.mem_of_find?_eq_some hf
    have hp := List.find?_some hf
    simp only [List.isPrefixOf_iff_prefix] at hp
    obtain ⟨x, hx⟩ := hp
    exact ⟨d, hd, x, hx.symm, rfl⟩
theorem tail_some {l : List UInt8} (h : tailSpace l ≠ 0) : ∃ c ∈ spaceSeqs, ∃ x, l = x ++ c ∧ tailSpace l = c.length := by
  unfold tailSpace at h ⊢
  cases hf : spaceSeqs.find? (·.isSuffixOf l) with
  | none => rw [hf] at h; simp at h
  | some d =>
    have hd := List.mem_of_find?_eq_some hf
    have hp := List.find?_some hf
    simp only [List.isSuffixOf_iff_suffix] at hp
    obtain ⟨x, hx⟩ := hp
    exact ⟨d, hd, x, hx.symm, rfl⟩

theorem stripL_spec : ∀ (f : Nat) (l : List UInt8), l.length ≤ f → ∃ A, l = A ++ stripL f l ∧ WS A ∧ NoHead (stripL f l)
  | 0, l, h => by
    have : l = [] := List.length_eq_zero_iff.1 (by omega)
    subst this
    exact ⟨[], rfl, ws_nil, head_none headSpace_nil⟩
  | f + 1, l, h => by
    unfold stripL
    split
    · rename_i h0
      exact ⟨[], rfl, ws_nil, head_none h0⟩
    · rename_i h0
      obtain ⟨c, hc, x, rfl, hl⟩ := head_some h0
      rw [hl, List.drop_left]
      have hcl : 0 < c.length := List.length_pos_iff.2 (seqs_ne c hc)
      obtain ⟨A, e, hA, hn⟩ := stripL_spec f x (by simp at h; omega)
      refine ⟨c ++ A, ?_, ws_cons hc hA, hn⟩
      rw [List.append_assoc, ← e]
theorem stripR_spec : ∀ (f : Nat) (l : List UInt8), l.length ≤ f → ∃ B, l = stripR f l ++ B ∧ WS B ∧ NoTail (stripR f l)
  | 0, l, h => by
    have : l = [] := List.length_eq_zero_iff.1 (by omega)
    subst this
    exact ⟨[], rfl, ws_nil, tail_none tailSpace_nil⟩
  | f + 1, l, h => by
    unfold stripR
    split
    · rename_i h0
      exact ⟨[], by simp, ws_nil, tail_none h0⟩
    · rename_i h0
      obtain ⟨c, hc, x, rfl, hl⟩ := tail_some h0
      have hcl : 0 < c.length := List.length_pos_iff.2 (seqs_ne c hc)
      rw [hl, show (x ++ c).length - c.length = x.length by simp, List.take_left]
      obtain ⟨B, e, hB, hn⟩ := stripR_spec f x (by simp at h; omega)
      refine ⟨B ++ c, ?_, ws_snoc hc hB, hn⟩
      rw [← List.append_assoc, ← e]
theorem nohead_pre {T B : List UInt8} (h : NoHead (T ++ B)) : NoHead T := fun c hc x e => h c hc (x ++ B) (by rw [e, List.append_assoc])

theorem end_le (s : ByteArray) : rightEnd s ≤ s.size := by
  unfold rightEnd
  split
  · rename_i h0
    rcases rightFrom_lt s s.size s.size (Nat.le_refl _) with h | ⟨h1, h2⟩
    · change rightIdx s = -1 at h; omega
    · change rightIdx s < _ at h2
      have hw := Lib.decodeGo_le_size (s.extract (rightIdx s).toNat s.size)
      rw [Lib.tail_size] at hw
      change (Lib.decodeGoB (s.extract (rightIdx s).toNat s.size)).2 ≤ _ at hw
      omega
  · omega

/-- A slice of the argument's own cells (or nil) that holds T, behind what was struck. -/
def Cut (v : Value) (b off : Nat) (A T : List UInt8) : Prop := (v = .slice none 0 0 ∧ T = []) ∨ ∃ c, v = .slice (some ⟨b, off + A.length, none⟩) T.length c

/-- WHAT bytes.TrimFunc AT unicode.IsSpace HANDS BACK. -/
theorem cut_spec (s : ByteArray) (b off cap : Nat) : ∃ A T B, s.data.toList = A ++ (T ++ B) ∧ WS A ∧ WS B ∧ NoHead T ∧ NoTail T ∧ Cut (trimCut isSpaceR s b off cap) b off A T := by
  have hl : (goTrimLeft s).data.toList = stripL s.data.toList.length s.data.toList := by rw [goTrimLeft_eq, stripL_eq]
  obtain ⟨A, eA, hA, hn⟩ := stripL_spec s.data.toList.length s.data.toList (Nat.le_refl _)
  rw [← hl] at eA hn
  unfold trimCut
  rw [idx_eq]
  by_cases hm : leftIdx s = -1
  · rw [if_pos hm]
    have e0 : (goTrimLeft s).data.toList = [] := by unfold goTrimLeft; rw [if_pos hm]
    rw [e0] at eA hn
    exact ⟨A, [], [], eA, hA, ws_nil, hn, fun c hc x e => absurd (List.append_eq_nil_iff.1 e.symm).2 (seqs_ne c hc), .inl ⟨rfl, rfl⟩⟩
  · rw [if_neg hm]
    have hg : goTrimLeft s = s.extract (leftIdx s).toNat s.size := by unfold goTrimLeft; rw [if_neg hm]
    rw [← hg]
    have hr : (goTrimRight (goTrimLeft s)).data.toList = stripR (goTrimLeft s).data.toList.length (goTrimLeft s).data.toList := by rw [goTrimRight_eq, stripR_eq]
    obtain ⟨B, eB, hB, ht⟩ := stripR_spec (goTrimLeft s).data.toList.length (goTrimLeft s).data.toList (Nat.le_refl _)
    rw [← hr] at eB ht
    have hAi : A.length = (leftIdx s).toNat := by
      have h1 := congrArg List.length eA
      have h2 := Lib.size_eq (goTrimLeft s)
      rw [List.length_append, ← h2, ← Lib.size_eq, hg, Lib.tail_size] at h1
      have h3 := leftFrom_range s s.size 0
      change leftIdx s = -1 ∨ _ at h3
      rcases h3 with h3 | ⟨h3, h4⟩
      · exact absurd h3 hm
      · change leftIdx s < _ at h4
        omega
    have hre : (goTrimRight (goTrimLeft s)).data.toList.length = rightEnd (goTrimLeft s) := by
      have h1 := end_le (goTrimLeft s)
      rw [← Lib.size_eq]
      unfold goTrimRight
      rw [ByteArray.size_extract]
      omega
    refine ⟨A, (goTrimRight (goTrimLeft s)).data.toList, B, by rw [← eB]; exact eA, hA, hB, nohead_pre (by rw [← eB]; exact hn), ht, .inr ⟨cap - (leftIdx s).toNat, ?_⟩⟩
    unfold rightCut
    rw [end_eq, hre, hAi]
end Go.Proofs.Qxb6609356aDoor
