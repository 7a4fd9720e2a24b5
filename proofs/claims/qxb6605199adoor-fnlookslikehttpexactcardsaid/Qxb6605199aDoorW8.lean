import Derived.Test.Qxb6605199aDoorW7
namespace Go.Proofs.Qxb6605199aDoor
open Go.RowKit Go.Lib

/-- What the cells of the words hold: headers of slices. -/
def Heads (w : World) (a : Addr) (wn : Nat) (A : Nat → Option Addr) (L C : Nat → Nat) : Prop := ∀ r, r < wn → w.cell? (a.add r) = some (.slice (A r) (L r) (C r)) ∧ L r ≤ 9223372036854775807

def BoolRet (e : Ending) : Prop := ∃ b, e = .returned (.bool b)
/-- zzBytes' answer: true only where every word is short. -/
def BytesRet (wn : Nat) (L : Nat → Nat) (e : Ending) : Prop := ∃ b, e = .returned (.bool b) ∧ (b = true → ∀ r, r < wn → L r ≤ 1048576)
set_option maxHeartbeats 1000000 in
/-- zzBytes at nil words. -/
theorem bytes_nil (w : World) (A0 : Option Addr) (n0 c0 : Nat) (h0 : n0 ≤ 9223372036854775807) :
    Calls Tryd.prog 4 #[.slice A0 n0 c0, .slice none 0 0] w fun e w' => BoolRet e ∧ w' = w := by
  by_cases hb : n0 ≤ 1048576
  · go_enter Tryd.func4, Tryd.ntmps4
    go_wp2
    go_loop [5, 6] (fun nv iv => nv = .int .i64 n0 ∧ iv = .int .i64 0) (fun _ _ => 0)
    case atStart => exact ⟨by go_num, rfl⟩
    case round =>
      obtain ⟨rfl, rfl⟩ := hrel
      go_wp2
      go_ret
      exact ⟨⟨_, rfl⟩, rfl⟩
  · go_enter Tryd.func4, Tryd.ntmps4
    go_wp2
    go_ret
    exact ⟨⟨_, rfl⟩, rfl⟩
set_option maxHeartbeats 1000000 in
/-- zzBytes. -/
theorem bytes_some (w : World) (A0 : Option Addr) (n0 c0 : Nat) (h0 : n0 ≤ 9223372036854775807) (a : Addr) (wn wc : Nat) (A : Nat → Option Addr) (L C : Nat → Nat) (hwn : wn ≤ 9223372036854775807) (hH : Heads w a wn A L C) :
    Calls Tryd.prog 4 #[.slice A0 n0 c0, .slice (some a) wn wc] w fun e w' => BytesRet wn L e ∧ w' = w := by
  have HH := Hid.mk hH
  clear hH
  by_cases hb : n0 ≤ 1048576
  · by_cases hb2 : wn ≤ 1048576
    · by_cases hb3 : n0 + wn ≤ 1048576
      · go_enter Tryd.func4, Tryd.ntmps4
        go_wp2
        go_loop [5, 6] (fun nv iv => ∃ z i : Nat, z ≤ 1048576 ∧ i ≤ wn ∧ nv = .int .i64 z ∧ iv = .int .i64 i ∧ ∀ r, r < i → L r ≤ 1048576) (fun _ iv => wn - (RowKit.intOf iv).toNat)
        case atStart => exact ⟨n0 + wn, 0, by omega, by omega, by go_num, rfl, fun r hr => by omega⟩
        case round =>
          obtain ⟨z, i, hz, hi, rfl, rfl, hall⟩ := hrel
          have HALL := Hid.mk hall
          clear hall
          by_cases hi' : i < wn
          · obtain ⟨hc, hl⟩ := HH.out i hi'
            obtain ⟨Ai, hAi⟩ : ∃ x, x = A i := ⟨_, rfl⟩
            obtain ⟨Li, hLi⟩ : ∃ x, x = L i := ⟨_, rfl⟩
            obtain ⟨Ci, hCi⟩ : ∃ x, x = C i := ⟨_, rfl⟩
            rw [← hAi, ← hLi, ← hCi] at hc
            rw [← hLi] at hl
            have HLI := Hid.mk hLi
            clear hAi hLi hCi
            by_cases hl1 : Li ≤ 1048576
            · by_cases hl2 : z + Li ≤ 1048576
              · go_wp2
                go_round
                case rel =>
                  refine ⟨z + Li, i + 1, by omega, by omega, by go_num, by go_num, fun r hr => ?_⟩
                  by_cases e : r = i
                  · subst e; rw [← HLI.out]; omega
                  · exact HALL.out r (by omega)
                case measure => simp [RowKit.intOf]; omega
              · go_wp2
                go_ret
                exact ⟨⟨false, rfl, fun h => by cases h⟩, rfl⟩
            · go_wp2
              go_ret
              exact ⟨⟨false, rfl, fun h => by cases h⟩, rfl⟩
          · obtain rfl : i = wn := by omega
            go_wp2
            go_ret
            exact ⟨⟨true, rfl, fun _ => HALL.out⟩, rfl⟩
      · go_enter Tryd.func4, Tryd.ntmps4
        go_wp2
        go_ret
        exact ⟨⟨false, rfl, fun h => by cases h⟩, rfl⟩
    · go_enter Tryd.func4, Tryd.ntmps4
      go_wp2
      go_ret
      exact ⟨⟨false, rfl, fun h => by cases h⟩, rfl⟩
  · go_enter Tryd.func4, Tryd.ntmps4
    go_wp2
    go_ret
    exact ⟨⟨false, rfl, fun h => by cases h⟩, rfl⟩
end Go.Proofs.Qxb6605199aDoor
