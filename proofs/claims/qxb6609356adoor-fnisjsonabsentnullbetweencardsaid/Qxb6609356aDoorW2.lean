import Derived.Test.Qxb6609356aDoorW1
import Derived.Laws.IdiomStrings
namespace Go.Proofs.Qxb6609356aDoor
open Go.RowKit Go.Lib

theorem conv_at {w : World} {b off : Nat} {l A T B : List UInt8} (h : BA w b off l) (e : l = A ++ (T ++ B)) (c : Nat) :
    (convert 22 9 (.slice (some ⟨b, off + A.length, none⟩) T.length c)).run Tryd.prog w = .ok (.string ⟨T.toArray⟩) w := by
  refine run_convert_bytes_back w 22 9 5 _ c T Tryd.underlying22 Tryd.underlying5 Tryd.underlying9 (fun j hj => ?_)
  have e2 : (⟨b, off + A.length, none⟩ : Addr).add j = ⟨b, off + (A.length + j), none⟩ := by unfold Addr.add; split <;> simp_all [Nat.add_assoc]
  have := h (A.length + j) (by rw [e]; simp; omega)
  rw [e2, this]
  unfold ba
  rw [e, List.getD_eq_getElem?_getD, List.getElem?_append_right (by omega), Nat.add_sub_cancel_left, List.getElem?_append_left hj, List.getElem?_eq_getElem hj]
  rfl

set_option maxHeartbeats 1000000 in
theorem absent_any (w : World) (b off n cap : Nat) (l : List UInt8) (hn : l.length = n) (h0 : 0 < n) (hl : n ≤ cap) (h63 : n ≤ 4294967296) (hB : BA w b off l) (hT : Tabs w) :
    Calls Tryd.prog 8 #[.slice (some ⟨b, off, none⟩) n cap] w fun e w' => ∃ r : Bool, e = .returned (.bool r) ∧ (r = true ↔ Abs l) ∧ Below w.heap.size w w' := by
  have hts := Hid.mk (trimspace_any w b off n cap l hn hl h63 hB hT)
  have HB := Hid.mk hB
  have t0 : ((n : Int) == 0) = false := beq_eq_false_iff_ne.2 (by omega)
  clear hB hT
  go_enter Tryd.func8, Tryd.ntmps8
  go_wp2_with fail
  refine hts.out.mono ?_
  rintro e w1 ⟨A, T, B, v, rfl, el, hA, hB', hh, ht, hcut, hb⟩
  have hiff := Hid.mk (trimmed_iff ⟨A, B, el, hA, hB', hh, ht⟩)
  have hcv : ∃ v', v = v' ∧ (convert 22 9 v').run Tryd.prog w1 = .ok (.string ⟨T.toArray⟩) w1 := by
    rcases hcut with ⟨h, rfl⟩ | ⟨c, h⟩
    · exact ⟨_, h, run_convert_bytes_nil w1 22 5 Tryd.underlying22 Tryd.underlying5 0 0 9 Tryd.underlying9⟩
    · exact ⟨_, h, conv_at (HB.out.below hb) el c⟩
  obtain ⟨v', rfl, hcv⟩ := hcv
  clear el hA hB' hh ht hcut
  go_wp2
  go_ret
  exact ⟨T == nul, rfl, by rw [beq_iff_eq]; exact hiff.out, hb⟩

/-- The width of the white space at the head, by the bytes. -/
def swI (n : Nat) (c c1 c2 : Int) : Int :=
  if c = 32 ∨ (9 ≤ c ∧ c ≤ 13) then 1
  else if c = 194 then (if 1 < n ∧ (c1 = 133 ∨ c1 = 160) then 2 else 0)
  else if n ≤ 2 then 0
  else if (c = 225 ∧ c1 = 154 ∧ c2 = 128) ∨ (c = 226 ∧ c1 = 128 ∧ ((128 ≤ c2 ∧ c2 ≤ 138) ∨ c2 = 168 ∨ c2 = 169 ∨ c2 = 175)) ∨ (c = 226 ∧ c1 = 129 ∧ c2 = 159) ∨ (c = 227 ∧ c1 = 128 ∧ c2 = 128) then 3 else 0

/-! widths -/
set_option maxHeartbeats 1000000 in
theorem wd_a1 (w : World) (b off n cap i : Nat) (hi : i < n) (_h63 : n ≤ 4294967296) (hc : w.cell? ⟨b, off + i, none⟩ = some (.int .u8 32)) :
    Calls Tryd.prog 18 #[.slice (some ⟨b, off, none⟩) n cap, .int .i64 i] w fun e w' => e = .returned (.int .i64 1) ∧ w' = w := by
  go_enter Tryd.func18, Tryd.ntmps18
  go_wp2
  go_ret
  exact ⟨rfl, rfl⟩

set_option maxHeartbeats 1000000 in
theorem wd_a2 (w : World) (b off n cap i : Nat) (c : Int) (hi : i < n) (_h63 : n ≤ 4294967296) (hc : w.cell? ⟨b, off + i, none⟩ = some (.int .u8 c)) (t32 : (c == 32) = false) (t1 : 9 ≤ c) (t2 : c ≤ 13) :
    Calls Tryd.prog 18 #[.slice (some ⟨b, off, none⟩) n cap, .int .i64 i] w fun e w' => e = .returned (.int .i64 1) ∧ w' = w := by
  go_enter Tryd.func18, Tryd.ntmps18
  go_wp2
  go_ret
  exact ⟨rfl, rfl⟩

set_option maxHeartbeats 1000000 in
theorem wd_b0 (w : World) (b off n cap i : Nat) (hi : i < n) (_h63 : n ≤ 4294967296) (hc : w.cell? ⟨b, off + i, none⟩ = some (.int .u8 194)) (hn : n ≤ i + 1) :
    Calls Tryd.prog 18 #[.slice (some ⟨b, off, none⟩) n cap, .int .i64 i] w fun e w' => e = .returned (.int .i64 0) ∧ w' = w := by
  go_enter Tryd.func18, Tryd.ntmps18
  go_wp2
  go_ret
  exact ⟨rfl, rfl⟩

set_option maxHeartbeats 1000000 in
theorem wd_b1 (w : World) (b off n cap i : Nat) (hi : i < n) (_h63 : n ≤ 4294967296) (hc : w.cell? ⟨b, off + i, none⟩ = some (.int .u8 194)) (hc1 : w.cell? ⟨b, off + (i + 1), none⟩ = some (.int .u8 133)) (hn : i + 1 < n) :
    Calls Tryd.prog 18 #[.slice (some ⟨b, off, none⟩) n cap, .int .i64 i] w fun e w' => e = .returned (.int .i64 2) ∧ w' = w := by
  go_enter Tryd.func18, Tryd.ntmps18
  go_wp2
  go_ret
  exact ⟨rfl, rfl⟩

set_option maxHeartbeats 1000000 in
theorem wd_b2 (w : World) (b off n cap i : Nat) (hi : i < n) (_h63 : n ≤ 4294967296) (hc : w.cell? ⟨b, off + i, none⟩ = some (.int .u8 194)) (hc1 : w.cell? ⟨b, off + (i + 1), none⟩ = some (.int .u8 160)) (hn : i + 1 < n) :
    Calls Tryd.prog 18 #[.slice (some ⟨b, off, none⟩) n cap, .int .i64 i] w fun e w' => e = .returned (.int .i64 2) ∧ w' = w := by
  go_enter Tryd.func18, Tryd.ntmps18
  go_wp2
  go_ret
  exact ⟨rfl, rfl⟩

set_option maxHeartbeats 1000000 in
theorem wd_b3 (w : World) (b off n cap i : Nat) (c1 : Int) (hi : i < n) (_h63 : n ≤ 4294967296) (hc : w.cell? ⟨b, off + i, none⟩ = some (.int .u8 194)) (hc1 : w.cell? ⟨b, off + (i + 1), none⟩ = some (.int .u8 c1)) (hn : i + 1 < n) (t1 : (c1 == 133) = false) (t2 : (c1 == 160) = false) :
    Calls Tryd.prog 18 #[.slice (some ⟨b, off, none⟩) n cap, .int .i64 i] w fun e w' => e = .returned (.int .i64 0) ∧ w' = w := by
  go_enter Tryd.func18, Tryd.ntmps18
  go_wp2
  go_ret
  exact ⟨rfl, rfl⟩

set_option maxHeartbeats 1000000 in
theorem wd_clo (w : World) (b off n cap i : Nat) (c : Int) (hi : i < n) (_h63 : n ≤ 4294967296) (hc : w.cell? ⟨b, off + i, none⟩ = some (.int .u8 c)) (t32 : (c == 32) = false) (tr : c < 9) (t194 : (c == 194) = false) (hn : n ≤ i + 2) :
    Calls Tryd.prog 18 #[.slice (some ⟨b, off, none⟩) n cap, .int .i64 i] w fun e w' => e = .returned (.int .i64 0) ∧ w' = w := by
  go_enter Tryd.func18, Tryd.ntmps18
  go_wp2
  go_ret
  exact ⟨rfl, rfl⟩

set_option maxHeartbeats 1000000 in
theorem wd_dlo (w : World) (b off n cap i : Nat) (c c1 c2 : Int) (hi : i < n) (_h63 : n ≤ 4294967296) (hc : w.cell? ⟨b, off + i, none⟩ = some (.int .u8 c)) (hc1 : w.cell? ⟨b, off + (i + 1), none⟩ = some (.int .u8 c1)) (hc2 : w.cell? ⟨b, off + (i + 2), none⟩ = some (.int .u8 c2)) (t32 : (c == 32) = false) (tr : c < 9) (t194 : (c == 194) = false) (hn : i + 2 < n) (t225 : (c == 225) = false) (t226 : (c == 226) = false) (t227 : (c == 227) = false) :
    Calls Tryd.prog 18 #[.slice (some ⟨b, off, none⟩) n cap, .int .i64 i] w fun e w' => e = .returned (.int .i64 0) ∧ w' = w := by
  go_enter Tryd.func18, Tryd.ntmps18
  go_wp2
  go_ret
  exact ⟨rfl, rfl⟩

set_option maxHeartbeats 1000000 in
theorem wd_chi (w : World) (b off n cap i : Nat) (c : Int) (hi : i < n) (_h63 : n ≤ 4294967296) (hc : w.cell? ⟨b, off + i, none⟩ = some (.int .u8 c)) (t32 : (c == 32) = false) (tr : 13 < c) (t194 : (c == 194) = false) (hn : n ≤ i + 2) :
    Calls Tryd.prog 18 #[.slice (some ⟨b, off, none⟩) n cap, .int .i64 i] w fun e w' => e = .returned (.int .i64 0) ∧ w' = w := by
  go_enter Tryd.func18, Tryd.ntmps18
  go_wp2
  go_ret
  exact ⟨rfl, rfl⟩

set_option maxHeartbeats 1000000 in
theorem wd_dhi (w : World) (b off n cap i : Nat) (c c1 c2 : Int) (hi : i < n) (_h63 : n ≤ 4294967296) (hc : w.cell? ⟨b, off + i, none⟩ = some (.int .u8 c)) (hc1 : w.cell? ⟨b, off + (i + 1), none⟩ = some (.int .u8 c1)) (hc2 : w.cell? ⟨b, off + (i + 2), none⟩ = some (.int .u8 c2)) (t32 : (c == 32) = false) (tr : 13 < c) (t194 : (c == 194) = false) (hn : i + 2 < n) (t225 : (c == 225) = false) (t226 : (c == 226) = false) (t227 : (c == 227) = false) :
    Calls Tryd.prog 18 #[.slice (some ⟨b, off, none⟩) n cap, .int .i64 i] w fun e w' => e = .returned (.int .i64 0) ∧ w' = w := by
  go_enter Tryd.func18, Tryd.ntmps18
  go_wp2
  go_ret
  exact ⟨rfl, rfl⟩

set_option maxHeartbeats 1000000 in
theorem wd_e1 (w : World) (b off n cap i : Nat) (c1 c2 : Int) (hi : i < n) (_h63 : n ≤ 4294967296) (hc : w.cell? ⟨b, off + i, none⟩ = some (.int .u8 225)) (hc1 : w.cell? ⟨b, off + (i + 1), none⟩ = some (.int .u8 c1)) (hc2 : w.cell? ⟨b, off + (i + 2), none⟩ = some (.int .u8 c2)) (hn : i + 2 < n) (t1 : (c1 == 154) = false) :
    Calls Tryd.prog 18 #[.slice (some ⟨b, off, none⟩) n cap, .int .i64 i] w fun e w' => e = .returned (.int .i64 0) ∧ w' = w := by
  go_enter Tryd.func18, Tryd.ntmps18
  go_wp2
  go_ret
  exact ⟨rfl, rfl⟩

set_option maxHeartbeats 1000000 in
theorem wd_e2 (w : World) (b off n cap i : Nat) (c2 : Int) (hi : i < n) (_h63 : n ≤ 4294967296) (hc : w.cell? ⟨b, off + i, none⟩ = some (.int .u8 225)) (hc1 : w.cell? ⟨b, off + (i + 1), none⟩ = some (.int .u8 154)) (hc2 : w.cell? ⟨b, off + (i + 2), none⟩ = some (.int .u8 c2)) (hn : i + 2 < n) (t1 : (c2 == 128) = false) :
    Calls Tryd.prog 18 #[.slice (some ⟨b, off, none⟩) n cap, .int .i64 i] w fun e w' => e = .returned (.int .i64 0) ∧ w' = w := by
  go_enter Tryd.func18, Tryd.ntmps18
  go_wp2
  go_ret
  exact ⟨rfl, rfl⟩

set_option maxHeartbeats 1000000 in
theorem wd_e3 (w : World) (b off n cap i : Nat) (hi : i < n) (_h63 : n ≤ 4294967296) (hc : w.cell? ⟨b, off + i, none⟩ = some (.int .u8 225)) (hc1 : w.cell? ⟨b, off + (i + 1), none⟩ = some (.int .u8 154)) (hc2 : w.cell? ⟨b, off + (i + 2), none⟩ = some (.int .u8 128)) (hn : i + 2 < n) :
    Calls Tryd.prog 18 #[.slice (some ⟨b, off, none⟩) n cap, .int .i64 i] w fun e w' => e = .returned (.int .i64 3) ∧ w' = w := by
  go_enter Tryd.func18, Tryd.ntmps18
  go_wp2
  go_ret
  exact ⟨rfl, rfl⟩

set_option maxHeartbeats 1000000 in
theorem wd_f1 (w : World) (b off n cap i : Nat) (c1 c2 : Int) (hi : i < n) (_h63 : n ≤ 4294967296) (hc : w.cell? ⟨b, off + i, none⟩ = some (.int .u8 226)) (hc1 : w.cell? ⟨b, off + (i + 1), none⟩ = some (.int .u8 c1)) (hc2 : w.cell? ⟨b, off + (i + 2), none⟩ = some (.int .u8 c2)) (hn : i + 2 < n) (t1 : (c1 == 128) = false) (t2 : (c1 == 129) = false) :
    Calls Tryd.prog 18 #[.slice (some ⟨b, off, none⟩) n cap, .int .i64 i] w fun e w' => e = .returned (.int .i64 0) ∧ w' = w := by
  go_enter Tryd.func18, Tryd.ntmps18
  go_wp2
  go_ret
  exact ⟨rfl, rfl⟩

set_option maxHeartbeats 1000000 in
theorem wd_f2 (w : World) (b off n cap i : Nat) (c2 : Int) (hi : i < n) (_h63 : n ≤ 4294967296) (hc : w.cell? ⟨b, off + i, none⟩ = some (.int .u8 226)) (hc1 : w.cell? ⟨b, off + (i + 1), none⟩ = some (.int .u8 128)) (hc2 : w.cell? ⟨b, off + (i + 2), none⟩ = some (.int .u8 c2)) (hn : i + 2 < n) (t1 : 128 ≤ c2) (t2 : c2 ≤ 138) :
    Calls Tryd.prog 18 #[.slice (some ⟨b, off, none⟩) n cap, .int .i64 i] w fun e w' => e = .returned (.int .i64 3) ∧ w' = w := by
  go_enter Tryd.func18, Tryd.ntmps18
  go_wp2
  go_ret
  exact ⟨rfl, rfl⟩

set_option maxHeartbeats 1000000 in
theorem wd_f168 (w : World) (b off n cap i : Nat) (hi : i < n) (_h63 : n ≤ 4294967296) (hc : w.cell? ⟨b, off + i, none⟩ = some (.int .u8 226)) (hc1 : w.cell? ⟨b, off + (i + 1), none⟩ = some (.int .u8 128)) (hc2 : w.cell? ⟨b, off + (i + 2), none⟩ = some (.int .u8 168)) (hn : i + 2 < n) :
    Calls Tryd.prog 18 #[.slice (some ⟨b, off, none⟩) n cap, .int .i64 i] w fun e w' => e = .returned (.int .i64 3) ∧ w' = w := by
  go_enter Tryd.func18, Tryd.ntmps18
  go_wp2
  go_ret
  exact ⟨rfl, rfl⟩

set_option maxHeartbeats 1000000 in
theorem wd_f169 (w : World) (b off n cap i : Nat) (hi : i < n) (_h63 : n ≤ 4294967296) (hc : w.cell? ⟨b, off + i, none⟩ = some (.int .u8 226)) (hc1 : w.cell? ⟨b, off + (i + 1), none⟩ = some (.int .u8 128)) (hc2 : w.cell? ⟨b, off + (i + 2), none⟩ = some (.int .u8 169)) (hn : i + 2 < n) :
    Calls Tryd.prog 18 #[.slice (some ⟨b, off, none⟩) n cap, .int .i64 i] w fun e w' => e = .returned (.int .i64 3) ∧ w' = w := by
  go_enter Tryd.func18, Tryd.ntmps18
  go_wp2
  go_ret
  exact ⟨rfl, rfl⟩

set_option maxHeartbeats 1000000 in
theorem wd_f175 (w : World) (b off n cap i : Nat) (hi : i < n) (_h63 : n ≤ 4294967296) (hc : w.cell? ⟨b, off + i, none⟩ = some (.int .u8 226)) (hc1 : w.cell? ⟨b, off + (i + 1), none⟩ = some (.int .u8 128)) (hc2 : w.cell? ⟨b, off + (i + 2), none⟩ = some (.int .u8 175)) (hn : i + 2 < n) :
    Calls Tryd.prog 18 #[.slice (some ⟨b, off, none⟩) n cap, .int .i64 i] w fun e w' => e = .returned (.int .i64 3) ∧ w' = w := by
  go_enter Tryd.func18, Tryd.ntmps18
  go_wp2
  go_ret
  exact ⟨rfl, rfl⟩

set_option maxHeartbeats 1000000 in
theorem wd_glo (w : World) (b off n cap i : Nat) (c2 : Int) (hi : i < n) (_h63 : n ≤ 4294967296) (hc : w.cell? ⟨b, off + i, none⟩ = some (.int .u8 226)) (hc1 : w.cell? ⟨b, off + (i + 1), none⟩ = some (.int .u8 128)) (hc2 : w.cell? ⟨b, off + (i + 2), none⟩ = some (.int .u8 c2)) (hn : i + 2 < n) (tr : c2 < 128) (t1 : (c2 == 168) = false) (t2 : (c2 == 169) = false) (t3 : (c2 == 175) = false) :
    Calls Tryd.prog 18 #[.slice (some ⟨b, off, none⟩) n cap, .int .i64 i] w fun e w' => e = .returned (.int .i64 0) ∧ w' = w := by
  go_enter Tryd.func18, Tryd.ntmps18
  go_wp2
  go_ret
  exact ⟨rfl, rfl⟩

set_option maxHeartbeats 1000000 in
theorem wd_ghi (w : World) (b off n cap i : Nat) (c2 : Int) (hi : i < n) (_h63 : n ≤ 4294967296) (hc : w.cell? ⟨b, off + i, none⟩ = some (.int .u8 226)) (hc1 : w.cell? ⟨b, off + (i + 1), none⟩ = some (.int .u8 128)) (hc2 : w.cell? ⟨b, off + (i + 2), none⟩ = some (.int .u8 c2)) (hn : i + 2 < n) (tr : 138 < c2) (t1 : (c2 == 168) = false) (t2 : (c2 == 169) = false) (t3 : (c2 == 175) = false) :
    Calls Tryd.prog 18 #[.slice (some ⟨b, off, none⟩) n cap, .int .i64 i] w fun e w' => e = .returned (.int .i64 0) ∧ w' = w := by
  go_enter Tryd.func18, Tryd.ntmps18
  go_wp2
  go_ret
  exact ⟨rfl, rfl⟩

set_option maxHeartbeats 1000000 in
theorem wd_h1 (w : World) (b off n cap i : Nat) (hi : i < n) (_h63 : n ≤ 4294967296) (hc : w.cell? ⟨b, off + i, none⟩ = some (.int .u8 226)) (hc1 : w.cell? ⟨b, off + (i + 1), none⟩ = some (.int .u8 129)) (hc2 : w.cell? ⟨b, off + (i + 2), none⟩ = some (.int .u8 159)) (hn : i + 2 < n) :
    Calls Tryd.prog 18 #[.slice (some ⟨b, off, none⟩) n cap, .int .i64 i] w fun e w' => e = .returned (.int .i64 3) ∧ w' = w := by
  go_enter Tryd.func18, Tryd.ntmps18
  go_wp2
  go_ret
  exact ⟨rfl, rfl⟩

set_option maxHeartbeats 1000000 in
theorem wd_h2 (w : World) (b off n cap i : Nat) (c2 : Int) (hi : i < n) (_h63 : n ≤ 4294967296) (hc : w.cell? ⟨b, off + i, none⟩ = some (.int .u8 226)) (hc1 : w.cell? ⟨b, off + (i + 1), none⟩ = some (.int .u8 129)) (hc2 : w.cell? ⟨b, off + (i + 2), none⟩ = some (.int .u8 c2)) (hn : i + 2 < n) (t1 : (c2 == 159) = false) :
    Calls Tryd.prog 18 #[.slice (some ⟨b, off, none⟩) n cap, .int .i64 i] w fun e w' => e = .returned (.int .i64 0) ∧ w' = w := by
  go_enter Tryd.func18, Tryd.ntmps18
  go_wp2
  go_ret
  exact ⟨rfl, rfl⟩

set_option maxHeartbeats 1000000 in
theorem wd_k1 (w : World) (b off n cap i : Nat) (c1 c2 : Int) (hi : i < n) (_h63 : n ≤ 4294967296) (hc : w.cell? ⟨b, off + i, none⟩ = some (.int .u8 227)) (hc1 : w.cell? ⟨b, off + (i + 1), none⟩ = some (.int .u8 c1)) (hc2 : w.cell? ⟨b, off + (i + 2), none⟩ = some (.int .u8 c2)) (hn : i + 2 < n) (t1 : (c1 == 128) = false) :
    Calls Tryd.prog 18 #[.slice (some ⟨b, off, none⟩) n cap, .int .i64 i] w fun e w' => e = .returned (.int .i64 0) ∧ w' = w := by
  go_enter Tryd.func18, Tryd.ntmps18
  go_wp2
  go_ret
  exact ⟨rfl, rfl⟩

set_option maxHeartbeats 1000000 in
theorem wd_k2 (w : World) (b off n cap i : Nat) (c2 : Int) (hi : i < n) (_h63 : n ≤ 4294967296) (hc : w.cell? ⟨b, off + i, none⟩ = some (.int .u8 227)) (hc1 : w.cell? ⟨b, off + (i + 1), none⟩ = some (.int .u8 128)) (hc2 : w.cell? ⟨b, off + (i + 2), none⟩ = some (.int .u8 c2)) (hn : i + 2 < n) (t1 : (c2 == 128) = false) :
    Calls Tryd.prog 18 #[.slice (some ⟨b, off, none⟩) n cap, .int .i64 i] w fun e w' => e = .returned (.int .i64 0) ∧ w' = w := by
  go_enter Tryd.func18, Tryd.ntmps18
  go_wp2
  go_ret
  exact ⟨rfl, rfl⟩

set_option maxHeartbeats 1000000 in
theorem wd_k3 (w : World) (b off n cap i : Nat) (hi : i < n) (_h63 : n ≤ 4294967296) (hc : w.cell? ⟨b, off + i, none⟩ = some (.int .u8 227)) (hc1 : w.cell? ⟨b, off + (i + 1), none⟩ = some (.int .u8 128)) (hc2 : w.cell? ⟨b, off + (i + 2), none⟩ = some (.int .u8 128)) (hn : i + 2 < n) :
    Calls Tryd.prog 18 #[.slice (some ⟨b, off, none⟩) n cap, .int .i64 i] w fun e w' => e = .returned (.int .i64 3) ∧ w' = w := by
  go_enter Tryd.func18, Tryd.ntmps18
  go_wp2
  go_ret
  exact ⟨rfl, rfl⟩
end Go.Proofs.Qxb6609356aDoor
