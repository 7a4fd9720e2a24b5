import Derived.Test.Qxb6003914aDoorS1
namespace Go.Proofs.Qxb6003914aDoor

theorem tl_zeros (n : Nat) (A : List UInt8) : tl (List.replicate n 48 ++ A) = tl A := by
  induction n with
  | zero => simp
  | succ n ih =>
    rw [List.replicate_succ, List.cons_append]
    unfold tl Lib.trimLeftB at ih ⊢
    rw [List.dropWhile_cons]
    simp
theorem tl_append_nil (A B : List UInt8) (h : tl A = []) : tl (A ++ B) = tl B := by
  have e := tl_eq A
  rw [h, List.append_nil] at e
  rw [e, tl_zeros]
theorem tl_append_ne (A B : List UInt8) (h : tl A ≠ []) : tl (A ++ B) = tl A ++ B := by
  have e := tl_eq A
  have h2 : tl (A ++ B) = tl (List.replicate (A.length - (tl A).length) 48 ++ (tl A ++ B)) := by rw [← List.append_assoc, ← e]
  rw [h2]
  refine tl_app _ _ (fun c hc => (List.mem_replicate.1 hc).2) ?_
  intro c hc
  refine tl_nol A c ?_
  cases g : tl A with
  | nil => exact absurd g h
  | cons a t => rw [g] at hc; simpa using hc
theorem tr_zeros (A : List UInt8) (n : Nat) : tr (A ++ List.replicate n 48) = tr A := by
  have e : tr (A ++ List.replicate n 48) = (tl (A ++ List.replicate n 48).reverse).reverse := rfl
  rw [e, List.reverse_append, List.reverse_replicate, tl_zeros]
  rfl
theorem tr_append_nil (A B : List UInt8) (h : tr B = []) : tr (A ++ B) = tr A := by
  have e := tr_eq B
  rw [h, List.nil_append] at e
  rw [e, tr_zeros]
theorem tr_append_ne (A B : List UInt8) (h : tr B ≠ []) : tr (A ++ B) = A ++ tr B := by
  have e : tr (A ++ B) = (tl (A ++ B).reverse).reverse := rfl
  have h' : tl B.reverse ≠ [] := fun hh => h (by show (tl B.reverse).reverse = []; rw [hh]; rfl)
  rw [e, List.reverse_append, tl_append_ne _ _ h', List.reverse_append, List.reverse_reverse]
  rfl

/-- WHAT A SPELLING COMES TO: its digits, struck of zeros at both ends, and the place of the point. -/
theorem pd_norm (ng : Bool) (W F : List UInt8) (x : Int) :
    (tr (tl (W ++ F)) = [] ∧ pd ng W F x = (false, [], [], 0)) ∨
    (tr (tl (W ++ F)) ≠ [] ∧ ∃ a b, pd ng W F x = (ng, a, b, (tl (W ++ F)).length - F.length + x) ∧ a ++ b = tr (tl (W ++ F))) := by
  cases h1 : (tl W).isEmpty
  · have n1 : tl W ≠ [] := by intro e; rw [e] at h1; simp at h1
    rw [tl_append_ne W F n1]
    have hz : tr (tl W) ≠ [] := by
      have := tr_tl_ne W h1
      intro e; rw [e] at this; simp at this
    right
    cases h2 : (tr F).isEmpty
    · have n2 : tr F ≠ [] := by intro e; rw [e] at h2; simp at h2
      rw [tr_append_ne _ _ n2]
      refine ⟨by simp [n2], tl W, tr F, ?_, rfl⟩
      simp [pd, h1, h2]
    · have e2 := List.isEmpty_iff.1 h2
      rw [tr_append_nil _ _ e2]
      refine ⟨hz, tr (tl W), [], ?_, by simp⟩
      simp [pd, h1, h2]
  · have e1 := List.isEmpty_iff.1 h1
    rw [tl_append_nil W F e1]
    cases h2 : (tr (tl F)).isEmpty
    · have n2 : tr (tl F) ≠ [] := by intro e; rw [e] at h2; simp at h2
      right
      refine ⟨n2, [], tr (tl F), ?_, rfl⟩
      simp [pd, h1, h2]
    · have e2 := List.isEmpty_iff.1 h2
      left
      exact ⟨e2, by simp [pd, h1, h2]⟩

/-- THE PLAIN LAW: the three spellings agree. -/
theorem agree (ng : Bool) (W F : List UInt8) (x : Int) (l r : Nat) :
    ∃ (n : Bool) (p : Int) (G a1 b1 a2 b2 a3 b3 : List UInt8), G = tr (tl (W ++ F)) ∧ (G = [] → n = false ∧ p = 0) ∧ (G ≠ [] → n = ng) ∧
      pd ng W F x = (n, a1, b1, p) ∧ a1 ++ b1 = G ∧
      pd ng (List.replicate l 48 ++ (W ++ (F ++ List.replicate r 48))) [] (x - F.length - r) = (n, a2, b2, p) ∧ a2 ++ b2 = G ∧
      pd ng [48] (List.replicate l 48 ++ (W ++ F)) (x + l + W.length) = (n, a3, b3, p) ∧ a3 ++ b3 = G := by
  have t2 : tl ((List.replicate l 48 ++ (W ++ (F ++ List.replicate r 48))) ++ []) = tl ((W ++ F) ++ List.replicate r 48) := by rw [List.append_nil, tl_zeros, List.append_assoc]
  have t3 : tl ([48] ++ (List.replicate l 48 ++ (W ++ F))) = tl (W ++ F) := by
    rw [← List.append_assoc, show ([48] : List UInt8) ++ List.replicate l 48 = List.replicate (l + 1) 48 from by simp [List.replicate_succ], tl_zeros]
  have tz : tl (List.replicate r 48) = [] := by have := tl_zeros r []; rwa [List.append_nil] at this
  have g2 : tr (tl ((W ++ F) ++ List.replicate r 48)) = tr (tl (W ++ F)) := by
    by_cases h : tl (W ++ F) = []
    · rw [tl_append_nil _ _ h, tz, h]
    · rw [tl_append_ne _ _ h, tr_zeros]
  have q1 := pd_norm ng W F x
  have q2 := pd_norm ng (List.replicate l 48 ++ (W ++ (F ++ List.replicate r 48))) [] (x - F.length - r)
  have q3 := pd_norm ng [48] (List.replicate l 48 ++ (W ++ F)) (x + l + W.length)
  rw [t2, g2] at q2
  rw [t3] at q3
  by_cases hG : tr (tl (W ++ F)) = []
  · rcases q1 with ⟨_, e1⟩ | ⟨h, _⟩
    · rcases q2 with ⟨_, e2⟩ | ⟨h, _⟩
      · rcases q3 with ⟨_, e3⟩ | ⟨h, _⟩
        · exact ⟨false, 0, [], [], [], [], [], [], [], hG.symm, fun _ => ⟨rfl, rfl⟩, fun h => absurd rfl h, e1, rfl, e2, rfl, e3, rfl⟩
        · exact absurd hG h
      · exact absurd hG h
    · exact absurd hG h
  · rcases q1 with ⟨h, _⟩ | ⟨_, a1, b1, e1, c1⟩
    · exact absurd h hG
    rcases q2 with ⟨h, _⟩ | ⟨_, a2, b2, e2, c2⟩
    · exact absurd h hG
    rcases q3 with ⟨h, _⟩ | ⟨_, a3, b3, e3, c3⟩
    · exact absurd h hG
    have hne : tl (W ++ F) ≠ [] := fun h => hG (by rw [h]; rfl)
    rw [tl_append_ne _ _ hne] at e2
    refine ⟨ng, (tl (W ++ F)).length - F.length + x, tr (tl (W ++ F)), a1, b1, a2, b2, a3, b3, rfl, fun h => absurd h hG, fun _ => rfl, e1, c1, ?_, c2, ?_, c3⟩
    · rw [e2]; simp only [List.length_append, List.length_replicate, List.length_nil, Prod.mk.injEq, true_and]; omega
    · rw [e3]; simp only [List.length_append, List.length_replicate, Prod.mk.injEq, true_and]; omega

theorem cmpT_self : ∀ x : List UInt8, cmpT x x = 0
  | [] => rfl
  | a :: x => by simp [cmpT, cmpT_self x]
theorem cmpD_self (n : Bool) (p : Int) (G : List UInt8) : cmpD n n p p G G = 0 := by
  unfold cmpD cmpM
  rw [if_pos rfl, if_pos rfl, cmpT_self]; simp
end Go.Proofs.Qxb6003914aDoor
