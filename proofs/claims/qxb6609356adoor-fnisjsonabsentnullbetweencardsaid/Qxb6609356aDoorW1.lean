import Derived.Test.Qxb6609356aDoorP2
import Derived.Test.Qxb6609356aDoorShelf
import Derived.WalkKit
import Derived.WalkSpells
import Derived.WalkLawsBesides
import Derived.Handy
namespace Go.Proofs.Qxb6609356aDoor
open Go.RowKit Go.Lib

theorem Hid.mk {p : Prop} (h : p) : Hid p := h
/-- A byte of a list. -/
def ba (l : List UInt8) (j : Nat) : Int := ((l.getD j 0).toNat : Int)
theorem ba_bd (l : List UInt8) (j : Nat) : 0 ≤ ba l j ∧ ba l j < 256 := by
  unfold ba
  have := (l.getD j 0).toNat_lt
  omega
/-- The bytes l lie from ⟨b, off⟩ on. -/
def BA (w : World) (b off : Nat) (l : List UInt8) : Prop := ∀ j, j < l.length → w.cell? ⟨b, off + j, none⟩ = some (.int .u8 (ba l j))
theorem BA.below {w w' : World} {b off : Nat} {l : List UInt8} (h : BA w b off l) (hb : Below w.heap.size w w') : BA w' b off l :=
  fun j hj => by rw [hb.cell (block_lt_of_cell (h j hj))]; exact h j hj
theorem get!_mk (l : List UInt8) (j : Nat) : (⟨l.toArray⟩ : ByteArray).get! j = l.getD j 0 := by
  show l.toArray.getD j default = _
  simp [Array.getD_eq_getD_getElem?, List.getD_eq_getElem?_getD]
  rfl
theorem size_mk (l : List UInt8) : (⟨l.toArray⟩ : ByteArray).size = l.length := by
  show l.toArray.size = _
  simp
theorem BA.at {w : World} {b off : Nat} {l : List UInt8} (h : BA w b off l) (i j : Nat) (hj : j ≤ l.length) : BytesAt ⟨((l.take j).drop i).toArray⟩ b (off + i) w := by
  intro k hk
  rw [size_mk] at hk
  rw [get!_mk]
  have hk' : i + k < j := by simp at hk; omega
  have := h (i + k) (by omega)
  rw [Nat.add_assoc, this]
  unfold ba
  rw [List.getD_eq_getElem?_getD, List.getD_eq_getElem?_getD, List.getElem?_drop, List.getElem?_take_of_lt hk']

/-- The library's tables, as they are laid. -/
def Tabs (w : World) : Prop := (∀ q : Nat, q < 256 → w.cell? ⟨0, q, none⟩ = some (.int .u8 (if isSp (UInt8.ofNat q) then 1 else 0))) ∧ Lib.WhiteTab 1 w ∧ Lib.Utf8Tabs 2 3 w
theorem Tabs.below {w w' : World} (h : Tabs w) (hb : Below w.heap.size w w') : Tabs w' :=
  ⟨fun q hq => by rw [hb.cell (block_lt_of_cell (h.1 q hq))]; exact h.1 q hq, WhiteTab_below h.2.1 hb, Utf8Tabs_below h.2.2 hb⟩

theorem space_pays (w : World) (hW : Lib.WhiteTab 1 w) : PredGrows Tryd.prog 21 #[] isSpaceR w := fun W x hx hb => by
  have h := Tryd.unicode_IsSpace_any (x : Int) W (by omega) (by omega) (WhiteTab_below hW hb)
  rw [Lib.isSpaceZ_nat] at h
  exact h
theorem enters21 : ∀ args w, (callFunc 21 args).run Tryd.prog w = .ok (.enter 21 args) w := enters_of Tryd.func21 (by kernel_rfl) rfl

/-- bytes.TrimFunc at unicode.IsSpace, over a window. -/
theorem trimfunc_at (w : World) (b off : Nat) (l : List UInt8) (h63 : l.length ≤ 4294967296) (hB : BA w b off l) (hT : Tabs w) (i j : Nat) (hj : j ≤ l.length) (c : Nat) (hc : j - i ≤ c) :
    Calls Tryd.prog 20 #[.slice (some ⟨b, off + i, none⟩) (j - i) c, .func (.func 21) #[] #[]] w fun e w' =>
      ∃ A T B v, e = .returned v ∧ (l.take j).drop i = A ++ (T ++ B) ∧ WS A ∧ WS B ∧ NoHead T ∧ NoTail T ∧ Cut v b (off + i) A T ∧ Below w.heap.size w w' := by
  have hs : ((l.take j).drop i).length = j - i := by simp; omega
  have h := Tryd.bytes_TrimFunc 21 #[] enters21 isSpaceR ⟨((l.take j).drop i).toArray⟩ b (off + i) c w (by rw [size_mk, hs]; exact hc) (by rw [size_mk, hs]; omega) (hB.at i j hj) hT.2.2 (space_pays w hT.2.1)
  rw [size_mk, hs] at h
  obtain ⟨A, T, B, e, hA, hB', hh, ht, hcut⟩ := cut_spec ⟨((l.take j).drop i).toArray⟩ b (off + i) c
  exact h.mono fun e' w' ⟨he, hb⟩ => ⟨A, T, B, _, he, e, hA, hB', hh, ht, hcut, hb⟩

theorem sp_seq : ∀ c : UInt8, isSp c = true → [c] ∈ spaceSeqs := by
  intro c h
  unfold isSp at h
  simp only [Bool.or_eq_true, beq_iff_eq] at h
  rcases h with ((((rfl | rfl) | rfl) | rfl) | rfl) | rfl <;> decide
theorem getD_take_snoc (l : List UInt8) (k : Nat) (h : k < l.length) : l.take (k + 1) = l.take k ++ [l.getD k 0] := by
  rw [List.take_succ_eq_append_getElem h, List.getD_eq_getElem?_getD, List.getElem?_eq_getElem h]
  rfl
theorem ws_grow {l : List UInt8} {k : Nat} (h : WS (l.take k)) (hk : k < l.length) (hc : isSp (l.getD k 0) = true) : WS (l.take (k + 1)) := by
  rw [getD_take_snoc l k hk]
  exact ws_snoc (sp_seq _ hc) h
theorem drop_cons (l : List UInt8) (k : Nat) (h : k < l.length) : l.drop k = l.getD k 0 :: l.drop (k + 1) := by
  rw [List.drop_eq_getElem_cons h, List.getD_eq_getElem?_getD, List.getElem?_eq_getElem h]
  rfl
theorem ws_shrink {l : List UInt8} {k : Nat} (h : WS (l.drop (k + 1))) (hk : k < l.length) (hc : isSp (l.getD k 0) = true) : WS (l.drop k) := by
  rw [drop_cons l k hk]
  exact ws_cons (c := [l.getD k 0]) (sp_seq _ hc) h
theorem seq_heads : ∀ c ∈ spaceSeqs, ∀ b, c.head? = some b → b.toNat < 128 → isSp b = true := by
  intro c hc b hb
  have : ∀ c ∈ spaceSeqs, (match c.head? with | some b => decide (b.toNat < 128) == false || isSp b | none => true) = true := by decide
  have h := this c hc
  rw [hb] at h
  simp at h
  intro hl
  rcases h with h | h
  · omega
  · exact h
theorem seq_lasts : ∀ c ∈ spaceSeqs, ∀ b, c.getLast? = some b → b.toNat < 128 → isSp b = true := by
  intro c hc b hb
  have : ∀ c ∈ spaceSeqs, (match c.getLast? with | some b => decide (b.toNat < 128) == false || isSp b | none => true) = true := by decide
  have h := this c hc
  rw [hb] at h
  simp at h
  intro hl
  rcases h with h | h
  · omega
  · exact h
theorem nohead_ascii {c : UInt8} {t : List UInt8} (h1 : c.toNat < 128) (h2 : isSp c = false) : NoHead (c :: t) := by
  intro d hd x e
  cases d with
  | nil => exact absurd rfl (seqs_ne _ hd)
  | cons b d =>
    simp at e
    have := seq_heads _ hd b rfl (by rw [← e.1]; exact h1)
    rw [← e.1, h2] at this
    cases this
theorem notail_ascii {c : UInt8} {t : List UInt8} (h1 : c.toNat < 128) (h2 : isSp c = false) : NoTail (t ++ [c]) := by
  intro d hd x e
  have hl := congrArg List.getLast? e
  rw [List.getLast?_append, List.getLast?_append] at hl
  cases g : d.getLast? with
  | none => exact absurd (List.getLast?_eq_none_iff.1 g) (seqs_ne _ hd)
  | some b =>
    rw [g] at hl
    simp at hl
    subst hl
    have := seq_lasts _ hd _ g h1
    rw [h2] at this
    cases this

/-- What bytes.TrimSpace leaves. -/
def Res (w : World) (b off : Nat) (l : List UInt8) (e : Ending) (w' : World) : Prop :=
  ∃ A T B v, e = .returned v ∧ l = A ++ (T ++ B) ∧ WS A ∧ WS B ∧ NoHead T ∧ NoTail T ∧ Cut v b off A T ∧ Below w.heap.size w w'

theorem res_left {w w' : World} {b off k n : Nat} {l A T B : List UInt8} {v : Value} (hn : l.length = n) (hsp : WS (l.take k)) (hk : k ≤ n) (eU : (l.take n).drop k = A ++ (T ++ B)) (hA : WS A) (hB : WS B) (hh : NoHead T) (ht : NoTail T)
    (hcut : Cut v b (off + k) A T) (hb : Below w.heap.size w w') : Res w b off l (.returned v) w' := by
  refine ⟨l.take k ++ A, T, B, v, rfl, ?_, ws_app hsp hA, hB, hh, ht, ?_, hb⟩
  · rw [← hn, List.take_length] at eU
    rw [List.append_assoc, ← eU, List.take_append_drop]
  · rcases hcut with h | ⟨c, h⟩
    · exact .inl h
    · refine .inr ⟨c, ?_⟩
      rw [h]
      have : (l.take k ++ A).length = k + A.length := by simp; omega
      rw [this, Nat.add_assoc]
theorem split3 (l : List UInt8) (k m : Nat) (hkm : k ≤ m) : l = l.take k ++ ((l.take m).drop k ++ l.drop m) := by
  have h1 : (l.take m).take k ++ (l.take m).drop k = l.take m := List.take_append_drop _ _
  rw [List.take_take, Nat.min_eq_left hkm] at h1
  rw [← List.append_assoc, h1, List.take_append_drop]
theorem res_right {w w' : World} {b off k m : Nat} {l A T B : List UInt8} {v : Value} (hkm : k ≤ m) (hm : m ≤ l.length) (hsp : WS (l.take k)) (hsr : WS (l.drop m)) (eU : (l.take m).drop k = A ++ (T ++ B)) (hA : WS A) (hB : WS B) (hh : NoHead T) (ht : NoTail T)
    (hcut : Cut v b (off + k) A T) (hb : Below w.heap.size w w') : Res w b off l (.returned v) w' := by
  refine ⟨l.take k ++ A, T, B ++ l.drop m, v, rfl, ?_, ws_app hsp hA, ws_app hB hsr, hh, ht, ?_, hb⟩
  · have := split3 l k m hkm
    rw [eU] at this
    simpa using this
  · rcases hcut with h | ⟨c, h⟩
    · exact .inl h
    · refine .inr ⟨c, ?_⟩
      rw [h]
      have : (l.take k ++ A).length = k + A.length := by simp; omega
      rw [this, Nat.add_assoc]
theorem res_end {w : World} {b off k m c : Nat} {l : List UInt8} (hkm : k < m) (hm : m ≤ l.length) (hsp : WS (l.take k)) (hsr : WS (l.drop m)) (a1 : (l.getD k 0).toNat < 128) (a2 : isSp (l.getD k 0) = false)
    (b1 : (l.getD (m - 1) 0).toNat < 128) (b2 : isSp (l.getD (m - 1) 0) = false) : Res w b off l (.returned (.slice (some ⟨b, off + k, none⟩) (m - k) c)) w := by
  have hlen : ((l.take m).drop k).length = m - k := by simp; omega
  refine ⟨l.take k, (l.take m).drop k, l.drop m, _, rfl, split3 l k m (by omega), hsp, hsr, ?_, ?_, .inr ⟨c, ?_⟩, Below.refl _ _⟩
  · have h1 : k < (l.take m).length := by simp; omega
    rw [drop_cons _ k h1]
    refine nohead_ascii ?_ ?_ <;> rw [List.getD_eq_getElem?_getD, List.getElem?_take_of_lt hkm, ← List.getD_eq_getElem?_getD] <;> assumption
  · have h1 : l.take m = l.take (m - 1) ++ [l.getD (m - 1) 0] := by
      have := getD_take_snoc l (m - 1) (by omega)
      rwa [show m - 1 + 1 = m by omega] at this
    rw [h1, List.drop_append_of_le_length (by simp; omega)]
    exact notail_ascii b1 b2
  · rw [hlen]
    have : (l.take k).length = k := by simp; omega
    rw [this]
theorem res_nil {w : World} {b off : Nat} {l : List UInt8} (h : WS l) : Res w b off l (.returned (.slice none 0 0)) w :=
  ⟨l, [], [], _, rfl, by simp, h, ws_nil, fun c hc x e => absurd (List.append_eq_nil_iff.1 e.symm).1 (seqs_ne c hc), fun c hc x e => absurd (List.append_eq_nil_iff.1 e.symm).2 (seqs_ne c hc), .inl ⟨rfl, rfl⟩, Below.refl _ _⟩

theorem ba_nat {l : List UInt8} {k : Nat} {c : Int} (h : ba l k = c) : (l.getD k 0).toNat = c.toNat := by unfold ba at h; omega
theorem ba_of {l : List UInt8} {k : Nat} {c : Int} (h : ba l k = c) : UInt8.ofNat c.toNat = l.getD k 0 := by
  rw [← ba_nat h]; simp

set_option maxHeartbeats 4000000 in
/-- bytes.TrimSpace, at every slice that is not nil. -/
theorem trimspace_any (w : World) (b off n cap : Nat) (l : List UInt8) (hn : l.length = n) (hl : n ≤ cap) (h63 : n ≤ 4294967296) (hB : BA w b off l) (hT : Tabs w) :
    Calls Tryd.prog 17 #[.slice (some ⟨b, off, none⟩) n cap] w fun e w' => Res w b off l e w' := by
  have HT := Hid.mk hT
  have HB := Hid.mk hB
  have HN := Hid.mk hn
  clear hT hB hn
  go_enter Tryd.func17, Tryd.ntmps17
  go_wp2
  go_loop [9, 0] (fun i s0 => s0 = .slice (some ⟨b, off, none⟩) n cap ∧ ∃ k : Nat, k ≤ n ∧ i = .int .i64 k ∧ Hid (WS (l.take k))) (fun i _ => n - (intOf i).toNat)
  case atStart => exact ⟨rfl, 0, Nat.zero_le _, rfl, Hid.mk (by simpa using ws_nil)⟩
  case round =>
    obtain ⟨rfl, k, hk, rfl, hsp⟩ := hrel
    by_cases hkn : k < n
    · have hcell := HB.out k (by rw [HN.out]; exact hkn)
      have hbd := ba_bd l k
      generalize hcc : ba l k = c at *
      have HC := Hid.mk hcc
      clear hcc
      by_cases h128 : 128 ≤ c
      · go_wp2_with fail
        refine (trimfunc_at w b off l (by rw [HN.out]; exact h63) HB.out HT.out k n (by rw [HN.out]; exact Nat.le_refl _) (cap - k) (by omega)).mono ?_
        rintro e w1 ⟨A, T, B, v, rfl, eU, hA, hB', hh, ht, hcut, hb⟩
        have HR := Hid.mk (res_left HN.out hsp.out hk eU hA hB' hh ht hcut hb)
        clear eU hA hB' hh ht hcut
        go_wp2
        go_ret
        exact HR.out
      · have hTx := HT.out.1 c.toNat (by omega)
        rw [ba_of HC.out] at hTx
        cases hs : isSp (l.getD k 0)
        · rw [hs] at hTx
          simp only [Bool.false_eq_true, if_false] at hTx
          have HS := Hid.mk hs
          clear hs
          have hca : Hid ((l.getD k 0).toNat < 128) := Hid.mk (by rw [ba_nat HC.out]; omega)
          go_wp2
          go_loop [5] (fun i => ∃ d : Nat, d < n - k ∧ i = .int .i64 d ∧ Hid (WS (l.drop (k + d + 1)))) (fun i => (intOf i).toNat)
          case atStart =>
            refine ⟨n - k - 1, by omega, by congr 1; omega, Hid.mk ?_⟩
            rw [List.drop_of_length_le (by rw [HN.out]; omega)]
            exact ws_nil
          case round =>
            obtain ⟨d, hd, rfl, hsr⟩ := hrel
            have hcell2 := HB.out (k + d) (by rw [HN.out]; omega)
            rw [← Nat.add_assoc] at hcell2
            have hbd2 := ba_bd l (k + d)
            generalize hcc2 : ba l (k + d) = c2 at *
            have HC2 := Hid.mk hcc2
            clear hcc2
            by_cases g128 : 128 ≤ c2
            · have hf := trimfunc_at w b off l (by rw [HN.out]; exact h63) HB.out HT.out k (k + d + 1) (by rw [HN.out]; omega) (cap - k) (by omega)
              rw [show k + d + 1 - k = d + 1 by omega] at hf
              have HF := Hid.mk hf
              clear hf
              go_wp2_with fail
              refine HF.out.mono ?_
              rintro e w1 ⟨A, T, B, v, rfl, eU, hA, hB', hh, ht, hcut, hb⟩
              have HR := Hid.mk (res_right (by omega) (by rw [HN.out]; omega) hsp.out hsr.out eU hA hB' hh ht hcut hb)
              clear eU hA hB' hh ht hcut HF
              go_wp2
              go_ret
              exact HR.out
            · have hTx2 := HT.out.1 c2.toNat (by omega)
              rw [ba_of HC2.out] at hTx2
              cases hs2 : isSp (l.getD (k + d) 0)
              · rw [hs2] at hTx2
                simp only [Bool.false_eq_true, if_false] at hTx2
                have hr := res_end (w := w) (b := b) (off := off) (c := cap - k) (show k < k + d + 1 by omega) (by rw [HN.out]; omega) hsp.out hsr.out hca.out HS.out (by rw [show k + d + 1 - 1 = k + d by omega, ba_nat HC2.out]; omega) (by rw [show k + d + 1 - 1 = k + d by omega]; exact hs2)
                rw [show k + d + 1 - k = d + 1 by omega] at hr
                have HR := Hid.mk hr
                clear hr hs2
                go_wp2
                go_ret
                exact HR.out
              · rw [hs2] at hTx2
                simp only [if_true] at hTx2
                have hd0 : 0 < d := by
                  apply Nat.pos_of_ne_zero
                  intro e
                  subst e
                  rw [Nat.add_zero, HS.out] at hs2
                  cases hs2
                have HG := Hid.mk (ws_shrink hsr.out (by rw [HN.out]; omega) hs2)
                clear hs2
                go_wp2
                exact ⟨⟨d - 1, by omega, by go_num, Hid.mk (by rw [show k + (d - 1) + 1 = k + d by omega]; exact HG.out)⟩, by simp [intOf]; omega⟩
        · rw [hs] at hTx
          simp only [if_true] at hTx
          have HG := Hid.mk (ws_grow hsp.out (by rw [HN.out]; exact hkn) hs)
          clear hs hsp
          go_wp2
          exact ⟨⟨rfl, k + 1, by omega, by go_num, HG⟩, by simp [intOf]; omega⟩
    · have HR : Hid (Res w b off l (.returned (.slice none 0 0)) w) := Hid.mk (res_nil (by
        have := hsp.out
        rwa [List.take_of_length_le (by rw [HN.out]; omega)] at this))
      go_wp2
      go_ret
      exact HR.out
end Go.Proofs.Qxb6609356aDoor
