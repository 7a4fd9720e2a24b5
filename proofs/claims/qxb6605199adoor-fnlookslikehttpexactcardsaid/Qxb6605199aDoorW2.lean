import Derived.Test.Qxb6605199aDoorW1
namespace Go.Proofs.Qxb6605199aDoor
open Go.RowKit Go.Lib

/-- A byte of a list. -/
def ba (l : List UInt8) (j : Nat) : Int := ((l.getD j 0).toNat : Int)
theorem ba_bd (l : List UInt8) (j : Nat) : 0 ≤ ba l j ∧ ba l j < 256 := by
  unfold ba
  have := (l.getD j 0).toNat_lt
  omega
/-- The bytes l lie from ⟨b, off⟩ on. -/
def BA (w : World) (b off : Nat) (l : List UInt8) : Prop := ∀ j, j < l.length → w.cell? ⟨b, off + j, none⟩ = some (.int .u8 (ba l j))
theorem BA.below {w w' : World} {b off : Nat} {l : List UInt8} (h : BA w b off l) (hb : Below w.heap.size w w') : BA w' b off l :=
  fun j hj => by rw [hb.cell (block_lt_of_cell (h j hj))]; exact h j hj

/-- A word spells a pattern. -/
def sp : List UInt8 → List UInt8 → Bool
  | l, [] => l.isEmpty
  | [], _ :: _ => false
  | b :: l, c :: p =>
    if (b.toNat : Int) = c.toNat then sp l p
    else if (65 : Int) ≤ c.toNat ∧ (c.toNat : Int) ≤ 90 ∧ (b.toNat : Int) = c.toNat + 32 then sp l p
    else if (c.toNat : Int) = 83 ∧ (b.toNat : Int) = 197 ∧ 0 < l.length ∧ ba l 0 = 191 then sp (l.drop 1) p
    else false
theorem sp_nil (l : List UInt8) : sp l [] = l.isEmpty := by cases l <;> rfl
theorem sp_short (c : UInt8) (p : List UInt8) : sp [] (c :: p) = false := rfl
theorem drop_cons (l : List UInt8) (j : Nat) (h : j < l.length) : l.drop j = l.getD j 0 :: l.drop (j + 1) := by
  rw [List.drop_eq_getElem_cons h, List.getD_eq_getElem?_getD, List.getElem?_eq_getElem h]; rfl
theorem ba_drop (l : List UInt8) (j k : Nat) : ba (l.drop j) k = ba l (j + k) := by
  unfold ba
  rw [List.getD_eq_getElem?_getD, List.getD_eq_getElem?_getD, List.getElem?_drop]
theorem sp_step (l p : List UInt8) (j i : Nat) (hj : j < l.length) (hi : i < p.length) : sp (l.drop j) (p.drop i) =
    if ba l j = ba p i then sp (l.drop (j + 1)) (p.drop (i + 1))
    else if 65 ≤ ba p i ∧ ba p i ≤ 90 ∧ ba l j = ba p i + 32 then sp (l.drop (j + 1)) (p.drop (i + 1))
    else if ba p i = 83 ∧ ba l j = 197 ∧ j + 1 < l.length ∧ ba l (j + 1) = 191 then sp (l.drop (j + 2)) (p.drop (i + 1))
    else false := by
  rw [drop_cons l j hj, drop_cons p i hi, sp, ba_drop l (j + 1) 0, List.drop_drop]
  have e : (0 < (l.drop (j + 1)).length) = (j + 1 < l.length) := by simp; omega
  simp only [e]
  rfl

set_option maxHeartbeats 1000000 in
/-- zzSpells at a word that lies in memory. -/
theorem spells_some (w : World) (b off n cap : Nat) (l : List UInt8) (hn : l.length = n) (h63 : n ≤ 4294967296) (hB : BA w b off l) (pat : ByteArray) (hp : pat.size ≤ 100) :
    Calls Tryd.prog 8 #[.slice (some ⟨b, off, none⟩) n cap, .string pat] w fun e w' => e = .returned (.bool (sp l pat.data.toList)) ∧ w' = w := by
  have HB := Hid.mk hB
  have HN := Hid.mk hn
  clear hB hn
  go_enter Tryd.func8, Tryd.ntmps8
  go_wp2
  go_loop [5, 6] (fun jv iv => ∃ j i : Nat, j ≤ n ∧ i ≤ pat.size ∧ jv = .int .i64 j ∧ iv = .int .i64 i ∧ sp l pat.data.toList = sp (l.drop j) (pat.data.toList.drop i)) (fun _ iv => pat.size - (RowKit.intOf iv).toNat)
  case atStart => exact ⟨0, 0, by omega, by omega, rfl, rfl, by simp⟩
  case round =>
    obtain ⟨j, i, hj, hi, rfl, rfl, hS⟩ := hrel
    have HS := Hid.mk hS
    clear hS
    by_cases hi' : i < pat.size
    · by_cases hj' : j < n
      · have hst := sp_step l pat.data.toList j i (by rw [HN.out]; exact hj') (by simpa using hi')
        have hc := HB.out j (by rw [HN.out]; exact hj')
        have hbd := ba_bd l j
        have hcI : (pat[i].toNat : Int) = ba pat.data.toList i := by
          unfold ba
          rw [List.getD_eq_getElem?_getD, List.getElem?_eq_getElem (by simpa using hi')]
          rfl
        have hcb := ba_bd pat.data.toList i
        obtain ⟨x, hx⟩ : ∃ x, x = ba l j := ⟨_, rfl⟩
        obtain ⟨c, hcc⟩ : ∃ c, c = ba pat.data.toList i := ⟨_, rfl⟩
        rw [← hx] at hc hbd hst
        rw [← hcc] at hcI hcb hst
        clear hx hcc
        have HT := Hid.mk hst
        clear hst
        by_cases a1 : x = c
        · subst a1
          go_wp2
          go_round
          case rel => exact ⟨j + 1, i + 1, by omega, by omega, by go_num, by go_num, by rw [HS.out, HT.out, if_pos rfl]⟩
          case measure => simp [RowKit.intOf]; omega
        · have n1 : (x == c) = false := by rw [beq_eq_false_iff_ne]; exact a1
          by_cases a2 : 65 ≤ c ∧ c ≤ 90 ∧ x = c + 32
          · obtain ⟨p1, p2, rfl⟩ := a2
            go_wp2
            go_round
            case rel => exact ⟨j + 1, i + 1, by omega, by omega, by go_num, by go_num, by rw [HS.out, HT.out, if_neg a1, if_pos ⟨p1, p2, rfl⟩]⟩
            case measure => simp [RowKit.intOf]; omega
          · by_cases a3 : c = 83 ∧ x = 197 ∧ j + 1 < n ∧ ba l (j + 1) = 191
            · have hc2 := HB.out (j + 1) (by rw [HN.out]; exact a3.2.2.1)
              rw [a3.2.2.2] at hc2
              obtain ⟨rfl, rfl, hj2, hb2⟩ := a3
              have hc2' : w.cell? ⟨b, off + j + 1, none⟩ = some (.int .u8 191) := hc2
              go_wp2
              go_round
              case rel => exact ⟨j + 2, i + 1, by omega, by omega, by go_num, by go_num, by rw [HS.out, HT.out, if_neg a1, if_neg a2, if_pos ⟨rfl, rfl, by rw [HN.out]; exact hj2, hb2⟩]⟩
              case measure => simp [RowKit.intOf]; omega
            · have HF := Hid.mk (show sp l pat.data.toList = false by rw [HS.out, HT.out, if_neg a1, if_neg a2, if_neg (by rw [HN.out]; exact a3)])
              have hfin : ∀ b : Bool, b = false → Ending.returned (.bool b) = .returned (.bool (sp l pat.data.toList)) := fun b hb => by rw [HF.out, hb]
              by_cases hj2 : j + 1 < n
              · have hc2 := HB.out (j + 1) (by rw [HN.out]; exact hj2)
                have hyb := ba_bd l (j + 1)
                obtain ⟨y, hy⟩ : ∃ y, y = ba l (j + 1) := ⟨_, rfl⟩
                rw [← hy] at hc2 hyb a3
                clear hy
                have HA2 := Hid.mk a2
                have HA3 := Hid.mk a3
                clear a2 a3
                go_wp2
                all_goals first
                  | (go_ret; exact ⟨hfin _ rfl, rfl⟩)
                  | (exfalso; have q2 := HA2.out; have q3 := HA3.out; simp_all; done)
                  | (exfalso; have q2 := HA2.out; have q3 := HA3.out; simp_all; omega)
              · have HA2 := Hid.mk a2
                clear a2 a3
                go_wp2
                all_goals first
                  | (go_ret; exact ⟨hfin _ rfl, rfl⟩)
                  | (exfalso; have q2 := HA2.out; simp_all; done)
                  | (exfalso; have q2 := HA2.out; simp_all; omega)
      · have HF := Hid.mk (show sp l pat.data.toList = false by
          rw [HS.out, drop_cons pat.data.toList i (by simpa using hi'), List.drop_of_length_le (by rw [HN.out]; omega), sp_short])
        go_wp2
        go_ret
        exact ⟨by rw [HF.out]; rfl, rfl⟩
    · have HF := Hid.mk (show sp l pat.data.toList = ((j : Int) == (n : Int)) by
        rw [HS.out, List.drop_of_length_le (show pat.data.toList.length ≤ i by simp; omega), sp_nil]
        by_cases h : j = n
        · subst h
          simp [HN.out]
        · rw [show ((j : Int) == (n : Int)) = false by rw [beq_eq_false_iff_ne]; omega]
          simp [HN.out]; omega)
      go_wp2
      go_ret
      refine ⟨?_, rfl⟩
      rw [HF.out]
      rfl

set_option maxHeartbeats 1000000 in
/-- zzSpells at a nil word. -/
theorem spells_nil (w : World) (pat : ByteArray) (_hp : pat.size ≤ 100) (hp0 : 0 < pat.size) :
    Calls Tryd.prog 8 #[.slice none 0 0, .string pat] w fun e w' => e = .returned (.bool false) ∧ w' = w := by
  go_enter Tryd.func8, Tryd.ntmps8
  go_wp2
  go_loop [5, 6] (fun jv iv => jv = .int .i64 0 ∧ iv = .int .i64 0) (fun _ _ => 0)
  case atStart => exact ⟨rfl, rfl⟩
  case round =>
    obtain ⟨rfl, rfl⟩ := hrel
    go_wp2
    go_ret
    exact ⟨rfl, rfl⟩
end Go.Proofs.Qxb6605199aDoor
