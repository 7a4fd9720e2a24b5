/-
  DERIVED: THE SHELF's CONTRACTS AT THIS DUMP, IN PLAIN WORDS (tools/lay-plain.mjs out of 'TrydShelf.lean', which tools/lay-shelf.mjs wrote): THE SAME DECLARATIONS UNDER THE SAME NAMES: 'import', 'namespace', 'open', 'def', 'theorem' AND NOTHING ELSE: no command of the shelf's: FOR A HAND-IN. Each laying: the table of numbers ('.._ren') and one theorem, a field a fact of the dump's own or the kernel's comparison; each contract: ONE APPLICATION.
-/
import Derived.Shelf.Spec.BytesTrimFunc
import Derived.Shelf.Unicode.IsSpaceAny
import Derived.Test.Qxb6609356aDoorProg
namespace Go.Proofs
open Go.Shelf
def Tryd.lays199_ren : Go.Shelf.Ren := ⟨fun | 199 => 21 | 261 => 24 | 311 => 28 | 312 => 29 | n => n, fun | 21 => 21 | 4 => 4 | 51 => 33 | 141 => 35 | 0 => 0 | 196 => 42 | 193 => 39 | 3 => 3 | 198 => 45 | 49 => 43 | 194 => 40 | 201 => 48 | 226 => 50 | 46 => 51 | 227 => 52 | n => n, fun | 6 => 1 | n => n⟩
theorem Tryd.lays199 : Go.Proofs.Lays.n199 Tryd.prog Tryd.lays199_ren := {
  mixed := by kernel_rfl
  f199 := Tryd.func21.trans (congrArg some (by kernel_rfl))
  f261 := Tryd.func24.trans (congrArg some (by kernel_rfl))
  f311 := Tryd.func28.trans (congrArg some (by kernel_rfl))
  f312 := Tryd.func29.trans (congrArg some (by kernel_rfl))
  t0 := Tryd.underlying0
  a0 := Tryd.isAgg0
  z0 := Tryd.sizeOf0
  v0 := Tryd.zeroValue0
  t3 := Tryd.underlying3
  a3 := Tryd.isAgg3
  z3 := Tryd.sizeOf3
  v3 := Tryd.zeroValue3
  t4 := Tryd.underlying4
  a4 := Tryd.isAgg4
  z4 := Tryd.sizeOf4
  v4 := Tryd.zeroValue4
  t21 := Tryd.underlying21
  a21 := Tryd.isAgg21
  z21 := Tryd.sizeOf21
  v21 := Tryd.zeroValue21
  t46 := Tryd.underlying51
  a46 := Tryd.isAgg51
  z46 := Tryd.sizeOf51
  v46 := Tryd.zeroValue51
  t49 := Tryd.underlying43
  a49 := Tryd.isAgg43
  z49 := Tryd.sizeOf43
  v49 := Tryd.zeroValue43
  t51 := Tryd.underlying33
  a51 := Tryd.isAgg33
  z51 := Tryd.sizeOf33
  v51 := Tryd.zeroValue33
  t141 := Tryd.underlying35
  a141 := Tryd.isAgg35
  z141 := Tryd.sizeOf35
  v141 := Tryd.zeroValue35
  t193 := Tryd.underlying39
  a193 := Tryd.isAgg39
  z193 := Tryd.sizeOf39
  v193 := Tryd.zeroValue39
  t194 := Tryd.underlying40
  a194 := Tryd.isAgg40
  z194 := Tryd.sizeOf40
  v194 := Tryd.zeroValue40
  t196 := Tryd.underlying42
  a196 := Tryd.isAgg42
  z196 := Tryd.sizeOf42
  v196 := Tryd.zeroValue42
  t198 := Tryd.underlying45
  a198 := Tryd.isAgg45
  z198 := Tryd.sizeOf45
  v198 := Tryd.zeroValue45
  t201 := Tryd.underlying48
  a201 := Tryd.isAgg48
  z201 := Tryd.sizeOf48
  v201 := Tryd.zeroValue48
  t226 := Tryd.underlying50
  a226 := Tryd.isAgg50
  z226 := Tryd.sizeOf50
  v226 := Tryd.zeroValue50
  t227 := Tryd.underlying52
  a227 := Tryd.isAgg52
  z227 := Tryd.sizeOf52
  v227 := Tryd.zeroValue52
  g6 := by kernel_rfl }
open Go.RowKit in
/-- unicode.IsSpace at every rune. -/
theorem Tryd.unicode_IsSpace_any (r : Int) (w : World) (hlo : -2147483648 ≤ r) (hhi : r ≤ 2147483647) (hW : Lib.WhiteTab 1 w) :
    Calls Tryd.prog 21 #[.int .i32 r] w fun e w' => e = .returned (.bool (Lib.isSpaceZ r)) ∧ Below w.heap.size w w' := Any.unicode_IsSpace_any Tryd.lays199 r w hlo hhi hW
def Tryd.lays42_ren : Go.Shelf.Ren := ⟨fun | 42 => 20 | 43 => 23 | 44 => 22 | 55 => 27 | 56 => 25 | 32 => 26 | 33 => 30 | 49 => 31 | 50 => 32 | n => n, fun | 30 => 22 | 48 => 31 | 4 => 4 | 3 => 3 | 0 => 0 | 5 => 5 | 33 => 37 | 21 => 21 | 66 => 32 | 25 => 51 | 69 => 56 | 68 => 55 | n => n, fun | 2 => 2 | 3 => 3 | n => n⟩
theorem Tryd.lays42 : Go.Proofs.Lays7.n42 Tryd.prog Tryd.lays42_ren := {
  mixed := by kernel_rfl
  f32 := Tryd.func26.trans (congrArg some (by kernel_rfl))
  f33 := Tryd.func30.trans (congrArg some (by kernel_rfl))
  f42 := Tryd.func20.trans (congrArg some (by kernel_rfl))
  f43 := Tryd.func23.trans (congrArg some (by kernel_rfl))
  f44 := Tryd.func22.trans (congrArg some (by kernel_rfl))
  f49 := Tryd.func31.trans (congrArg some (by kernel_rfl))
  f50 := Tryd.func32.trans (congrArg some (by kernel_rfl))
  f55 := Tryd.func27.trans (congrArg some (by kernel_rfl))
  f56 := Tryd.func25.trans (congrArg some (by kernel_rfl))
  t0 := Tryd.underlying0
  a0 := Tryd.isAgg0
  z0 := Tryd.sizeOf0
  v0 := Tryd.zeroValue0
  i0 := by kernel_rfl
  t3 := Tryd.underlying3
  a3 := Tryd.isAgg3
  z3 := Tryd.sizeOf3
  v3 := Tryd.zeroValue3
  i3 := by kernel_rfl
  t4 := Tryd.underlying4
  a4 := Tryd.isAgg4
  z4 := Tryd.sizeOf4
  v4 := Tryd.zeroValue4
  i4 := by kernel_rfl
  t5 := Tryd.underlying5
  a5 := Tryd.isAgg5
  z5 := Tryd.sizeOf5
  v5 := Tryd.zeroValue5
  i5 := by kernel_rfl
  t21 := Tryd.underlying21
  a21 := Tryd.isAgg21
  z21 := Tryd.sizeOf21
  v21 := Tryd.zeroValue21
  i21 := by kernel_rfl
  t25 := Tryd.underlying51
  a25 := Tryd.isAgg51
  z25 := Tryd.sizeOf51
  v25 := Tryd.zeroValue51
  i25 := by kernel_rfl
  t30 := Tryd.underlying22
  a30 := Tryd.isAgg22
  z30 := Tryd.sizeOf22
  v30 := Tryd.zeroValue22
  i30 := by kernel_rfl
  t33 := Tryd.underlying37
  a33 := Tryd.isAgg37
  z33 := Tryd.sizeOf37
  v33 := Tryd.zeroValue37
  i33 := by kernel_rfl
  t48 := Tryd.underlying31
  a48 := Tryd.isAgg31
  z48 := Tryd.sizeOf31
  v48 := Tryd.zeroValue31
  i48 := by kernel_rfl
  t66 := Tryd.underlying32
  a66 := Tryd.isAgg32
  z66 := Tryd.sizeOf32
  t68 := Tryd.underlying55
  a68 := Tryd.isAgg55
  z68 := Tryd.sizeOf55
  v68 := Tryd.zeroValue55
  i68 := by kernel_rfl
  t69 := Tryd.underlying56
  a69 := Tryd.isAgg56
  z69 := Tryd.sizeOf56
  v69 := Tryd.zeroValue56
  i69 := by kernel_rfl
  g2 := by kernel_rfl
  g3 := by kernel_rfl }
open Go.RowKit in
/-- bytes.TrimFunc at every slice that is not nil, at whatever function value. -/
theorem Tryd.bytes_TrimFunc (g : Nat) (lb : Array Value) (eg : ∀ args w, (callFunc g args).run Tryd.prog w = .ok (.enter g args) w) (p : Nat → Bool) (s : ByteArray) (b off cap : Nat) (w : World)
    (hcap : s.size ≤ cap) (hs : s.size ≤ 9223372036854775807) (hB : BytesAt s b off w) (hT : Lib.Utf8Tabs (Tryd.lays42_ren.g 2) (Tryd.lays42_ren.g 3) w) (hp : PredGrows Tryd.prog g lb p w) :
    Calls Tryd.prog 20 #[.slice (some ⟨b, off, none⟩) s.size cap, .func (.func g) #[] lb] w fun e w' => e = .returned (trimCut p s b off cap) ∧ Below w.heap.size w w' := Any7.bytes_TrimFunc Tryd.lays42 g lb eg p s b off cap w hcap hs hB hT hp
end Go.Proofs
