/-
  The shelf's contracts for strings.TrimLeft and strings.TrimRight at a cutset of one byte, laid at this dump in plain words by the kit's own tool.
-/
import Derived.Shelf.Strings.Trim
import Derived.Test.Qxb6003914aDoorProg
namespace Go.Proofs
open Go.Shelf
def Tryd.lays161_ren : Go.Shelf.Ren := ⟨fun | 161 => 22 | 231 => 27 | 227 => 28 | 233 => 29 | 235 => 30 | 228 => 38 | 197 => 39 | 151 => 40 | 260 => 43 | 152 => 44 | 137 => 46 | 119 => 47 | 224 => 48 | 225 => 49 | 217 => 50 | 266 => 51 | n => n, fun | 9 => 9 | 4 => 4 | 3 => 3 | 5 => 5 | 117 => 51 | 116 => 50 | 0 => 0 | 124 => 54 | 105 => 58 | 21 => 21 | 119 => 62 | 46 => 63 | 139 => 66 | 138 => 65 | n => n, fun | 3 => 0 | 4 => 1 | n => n⟩
theorem Tryd.lays161 : Go.Proofs.Lays.n161 Tryd.prog Tryd.lays161_ren := {
  mixed := by kernel_rfl
  f119 := Tryd.func47.trans (congrArg some (by kernel_rfl))
  f137 := Tryd.func46.trans (congrArg some (by kernel_rfl))
  f151 := Tryd.func40.trans (congrArg some (by kernel_rfl))
  f152 := Tryd.func44.trans (congrArg some (by kernel_rfl))
  f161 := Tryd.func22.trans (congrArg some (by kernel_rfl))
  f197 := Tryd.func39.trans (congrArg some (by kernel_rfl))
  f217 := Tryd.func50.trans (congrArg some (by kernel_rfl))
  f224 := Tryd.func48.trans (congrArg some (by kernel_rfl))
  f225 := Tryd.func49.trans (congrArg some (by kernel_rfl))
  f227 := Tryd.func28.trans (congrArg some (by kernel_rfl))
  f228 := Tryd.func38.trans (congrArg some (by kernel_rfl))
  f231 := Tryd.func27.trans (congrArg some (by kernel_rfl))
  f233 := Tryd.func29.trans (congrArg some (by kernel_rfl))
  f235 := Tryd.func30.trans (congrArg some (by kernel_rfl))
  f260 := Tryd.func43.trans (congrArg some (by kernel_rfl))
  f266 := Tryd.func51.trans (congrArg some (by kernel_rfl))
  t0 := Tryd.underlying0
  a0 := Tryd.isAgg0
  z0 := Tryd.sizeOf0
  v0 := Tryd.zeroValue0
  t3 := Tryd.underlying3
  a3 := Tryd.isAgg3
  z3 := Tryd.sizeOf3
  v3 := Tryd.zeroValue3
  t4 := Tryd.underlying4
  a4 := Tryd.isAgg4
  z4 := Tryd.sizeOf4
  v4 := Tryd.zeroValue4
  t5 := Tryd.underlying5
  a5 := Tryd.isAgg5
  z5 := Tryd.sizeOf5
  v5 := Tryd.zeroValue5
  t9 := Tryd.underlying9
  a9 := Tryd.isAgg9
  z9 := Tryd.sizeOf9
  v9 := Tryd.zeroValue9
  t21 := Tryd.underlying21
  a21 := Tryd.isAgg21
  z21 := Tryd.sizeOf21
  v21 := Tryd.zeroValue21
  t46 := Tryd.underlying63
  a46 := Tryd.isAgg63
  z46 := Tryd.sizeOf63
  v46 := Tryd.zeroValue63
  t105 := Tryd.underlying58
  a105 := Tryd.isAgg58
  z105 := Tryd.sizeOf58
  v105 := Tryd.zeroValue58
  t116 := Tryd.underlying50
  a116 := Tryd.isAgg50
  z116 := Tryd.sizeOf50
  t117 := Tryd.underlying51
  a117 := Tryd.isAgg51
  z117 := Tryd.sizeOf51
  v117 := Tryd.zeroValue51
  t119 := Tryd.underlying62
  a119 := Tryd.isAgg62
  z119 := Tryd.sizeOf62
  t124 := Tryd.underlying54
  a124 := Tryd.isAgg54
  z124 := Tryd.sizeOf54
  v124 := Tryd.zeroValue54
  t138 := Tryd.underlying65
  a138 := Tryd.isAgg65
  z138 := Tryd.sizeOf65
  v138 := Tryd.zeroValue65
  t139 := Tryd.underlying66
  a139 := Tryd.isAgg66
  z139 := Tryd.sizeOf66
  v139 := Tryd.zeroValue66
  g3 := by kernel_rfl
  g4 := by kernel_rfl }
open Go.RowKit in
/-- strings.TrimLeft: "TrimLeft returns a slice of the string s with all leading Unicode code points contained in cutset removed.": AT A cutset OF ONE ASCII BYTE. The world is as it was. (LAID: no walk: one application.) -/
theorem Tryd.strings_TrimLeft_one (s : ByteArray) (c : UInt8) (hc : c.toNat < 128) (w : World) :
    Calls Tryd.prog 22 #[.string s, .string ⟨#[c]⟩] w fun e w' => e = .returned (.string ⟨(Lib.trimLeftB s.data.toList c).toArray⟩) ∧ w' = w := Any.strings_TrimLeft_one Tryd.lays161 s c hc w
def Tryd.lays162_ren : Go.Shelf.Ren := ⟨fun | 162 => 23 | 232 => 31 | 227 => 28 | 234 => 32 | 236 => 33 | 228 => 38 | 271 => 41 | 151 => 40 | 120 => 45 | 197 => 39 | 152 => 44 | 260 => 43 | 137 => 46 | 119 => 47 | 224 => 48 | 225 => 49 | 217 => 50 | 266 => 51 | n => n, fun | 9 => 9 | 4 => 4 | 3 => 3 | 5 => 5 | 117 => 51 | 116 => 50 | 0 => 0 | 124 => 54 | 21 => 21 | 105 => 58 | 46 => 63 | 119 => 62 | 139 => 66 | 138 => 65 | n => n, fun | 3 => 0 | 4 => 1 | n => n⟩
theorem Tryd.lays162 : Go.Proofs.Lays.n162 Tryd.prog Tryd.lays162_ren := {
  mixed := by kernel_rfl
  f119 := Tryd.func47.trans (congrArg some (by kernel_rfl))
  f120 := Tryd.func45.trans (congrArg some (by kernel_rfl))
  f137 := Tryd.func46.trans (congrArg some (by kernel_rfl))
  f151 := Tryd.func40.trans (congrArg some (by kernel_rfl))
  f152 := Tryd.func44.trans (congrArg some (by kernel_rfl))
  f162 := Tryd.func23.trans (congrArg some (by kernel_rfl))
  f197 := Tryd.func39.trans (congrArg some (by kernel_rfl))
  f217 := Tryd.func50.trans (congrArg some (by kernel_rfl))
  f224 := Tryd.func48.trans (congrArg some (by kernel_rfl))
  f225 := Tryd.func49.trans (congrArg some (by kernel_rfl))
  f227 := Tryd.func28.trans (congrArg some (by kernel_rfl))
  f228 := Tryd.func38.trans (congrArg some (by kernel_rfl))
  f232 := Tryd.func31.trans (congrArg some (by kernel_rfl))
  f234 := Tryd.func32.trans (congrArg some (by kernel_rfl))
  f236 := Tryd.func33.trans (congrArg some (by kernel_rfl))
  f260 := Tryd.func43.trans (congrArg some (by kernel_rfl))
  f266 := Tryd.func51.trans (congrArg some (by kernel_rfl))
  f271 := Tryd.func41.trans (congrArg some (by kernel_rfl))
  t0 := Tryd.underlying0
  a0 := Tryd.isAgg0
  z0 := Tryd.sizeOf0
  v0 := Tryd.zeroValue0
  t3 := Tryd.underlying3
  a3 := Tryd.isAgg3
  z3 := Tryd.sizeOf3
  v3 := Tryd.zeroValue3
  t4 := Tryd.underlying4
  a4 := Tryd.isAgg4
  z4 := Tryd.sizeOf4
  v4 := Tryd.zeroValue4
  t5 := Tryd.underlying5
  a5 := Tryd.isAgg5
  z5 := Tryd.sizeOf5
  v5 := Tryd.zeroValue5
  t9 := Tryd.underlying9
  a9 := Tryd.isAgg9
  z9 := Tryd.sizeOf9
  v9 := Tryd.zeroValue9
  t21 := Tryd.underlying21
  a21 := Tryd.isAgg21
  z21 := Tryd.sizeOf21
  v21 := Tryd.zeroValue21
  t46 := Tryd.underlying63
  a46 := Tryd.isAgg63
  z46 := Tryd.sizeOf63
  v46 := Tryd.zeroValue63
  t105 := Tryd.underlying58
  a105 := Tryd.isAgg58
  z105 := Tryd.sizeOf58
  v105 := Tryd.zeroValue58
  t116 := Tryd.underlying50
  a116 := Tryd.isAgg50
  z116 := Tryd.sizeOf50
  t117 := Tryd.underlying51
  a117 := Tryd.isAgg51
  z117 := Tryd.sizeOf51
  v117 := Tryd.zeroValue51
  t119 := Tryd.underlying62
  a119 := Tryd.isAgg62
  z119 := Tryd.sizeOf62
  t124 := Tryd.underlying54
  a124 := Tryd.isAgg54
  z124 := Tryd.sizeOf54
  v124 := Tryd.zeroValue54
  t138 := Tryd.underlying65
  a138 := Tryd.isAgg65
  z138 := Tryd.sizeOf65
  v138 := Tryd.zeroValue65
  t139 := Tryd.underlying66
  a139 := Tryd.isAgg66
  z139 := Tryd.sizeOf66
  v139 := Tryd.zeroValue66
  g3 := by kernel_rfl
  g4 := by kernel_rfl }
open Go.RowKit in
/-- strings.TrimRight: "TrimRight returns a slice of the string s, with all trailing Unicode code points contained in cutset removed.": AT A cutset OF ONE ASCII BYTE. The world is as it was. (LAID: no walk: one application.) -/
theorem Tryd.strings_TrimRight_one (s : ByteArray) (c : UInt8) (hc : c.toNat < 128) (w : World) (hs : s.size ≤ 9223372036854775807) :
    Calls Tryd.prog 23 #[.string s, .string ⟨#[c]⟩] w fun e w' => e = .returned (.string ⟨(Lib.trimRightB s.data.toList c).toArray⟩) ∧ w' = w := Any.strings_TrimRight_one Tryd.lays162 s c hc w hs
end Go.Proofs
