/-
  DERIVED: THE SHELF's CONTRACTS AT THIS DUMP, IN PLAIN WORDS (tools/lay-plain.mjs out of 'TrydShelf.lean', which tools/lay-shelf.mjs wrote): THE SAME DECLARATIONS UNDER THE SAME NAMES: 'import', 'namespace', 'open', 'def', 'theorem' AND NOTHING ELSE: no command of the shelf's: FOR A HAND-IN. Each laying: the table of numbers ('.._ren') and one theorem, a field a fact of the dump's own or the kernel's comparison; each contract: ONE APPLICATION.
-/
import Derived.Shelf.Bytes.Small
import Derived.Shelf.Spec.DecodeRune
import Derived.Test.Qxb6605199aDoorProg
namespace Go.Proofs
open Go.Shelf
def Tryd.lays32_ren : Go.Shelf.Ren := ⟨fun | 32 => 13 | 49 => 15 | n => n, fun | 30 => 22 | 21 => 21 | 3 => 3 | 0 => 0 | 5 => 5 | 4 => 4 | 33 => 29 | 66 => 42 | 25 => 35 | 69 => 45 | 68 => 44 | n => n, fun | 2 => 3 | 3 => 4 | n => n⟩
theorem Tryd.lays32 : Go.Proofs.Lays7.n32 Tryd.prog Tryd.lays32_ren := {
  mixed := by kernel_rfl
  f32 := Tryd.func13.trans (congrArg some (by kernel_rfl))
  f49 := Tryd.func15.trans (congrArg some (by kernel_rfl))
  t0 := Tryd.underlying0
  a0 := Tryd.isAgg0
  z0 := Tryd.sizeOf0
  v0 := Tryd.zeroValue0
  i0 := by kernel_rfl
  t3 := Tryd.underlying3
  a3 := Tryd.isAgg3
  z3 := Tryd.sizeOf3
  v3 := Tryd.zeroValue3
  i3 := by kernel_rfl
  t4 := Tryd.underlying4
  a4 := Tryd.isAgg4
  z4 := Tryd.sizeOf4
  v4 := Tryd.zeroValue4
  i4 := by kernel_rfl
  t5 := Tryd.underlying5
  a5 := Tryd.isAgg5
  z5 := Tryd.sizeOf5
  v5 := Tryd.zeroValue5
  i5 := by kernel_rfl
  t21 := Tryd.underlying21
  a21 := Tryd.isAgg21
  z21 := Tryd.sizeOf21
  v21 := Tryd.zeroValue21
  i21 := by kernel_rfl
  t25 := Tryd.underlying35
  a25 := Tryd.isAgg35
  z25 := Tryd.sizeOf35
  v25 := Tryd.zeroValue35
  i25 := by kernel_rfl
  t30 := Tryd.underlying22
  a30 := Tryd.isAgg22
  z30 := Tryd.sizeOf22
  v30 := Tryd.zeroValue22
  i30 := by kernel_rfl
  t33 := Tryd.underlying29
  a33 := Tryd.isAgg29
  z33 := Tryd.sizeOf29
  v33 := Tryd.zeroValue29
  i33 := by kernel_rfl
  t66 := Tryd.underlying42
  a66 := Tryd.isAgg42
  z66 := Tryd.sizeOf42
  t68 := Tryd.underlying44
  a68 := Tryd.isAgg44
  z68 := Tryd.sizeOf44
  v68 := Tryd.zeroValue44
  i68 := by kernel_rfl
  t69 := Tryd.underlying45
  a69 := Tryd.isAgg45
  z69 := Tryd.sizeOf45
  v69 := Tryd.zeroValue45
  i69 := by kernel_rfl
  g2 := by kernel_rfl
  g3 := by kernel_rfl }
open Go.RowKit in
/-- utf8.DecodeRune at a slice of bytes. -/
theorem Tryd.utf8_DecodeRune (s : ByteArray) (b off cap : Nat) (w : World) (hT : Lib.Utf8Tabs (Tryd.lays32_ren.g 2) (Tryd.lays32_ren.g 3) w)
    (hp : ∀ j, j < s.size → w.cell? ⟨b, off + j, none⟩ = some (.int .u8 (s.get! j).toNat)) :
    Calls Tryd.prog 13 #[.slice (some ⟨b, off, none⟩) s.size cap] w fun e w' => e = .returned (.tuple #[.int .i32 (Lib.decodeGo s).1, .int .i64 (Lib.decodeGo s).2]) ∧ Below w.heap.size w w' := Any7.utf8_DecodeRune Tryd.lays32 s b off cap w hT hp
open Go.RowKit in
/-- utf8.DecodeRune at an ASCII byte. -/
theorem Tryd.utf8_DecodeRune_ascii (n b off cap x0 : Nat) (w : World) (hn : (0 : Int) < (n : Int)) (hs0 : w.cell? ⟨b, off, none⟩ = some (.int .u8 x0)) (ha : (x0 : Int) < 128) :
    Calls Tryd.prog 13 #[.slice (some ⟨b, off, none⟩) n cap] w fun e w' => e = .returned (.tuple #[.int .i32 x0, .int .i64 1]) ∧ w' = w := Any7.utf8_DecodeRune_ascii Tryd.lays32 n b off cap x0 w hn hs0 ha
def Tryd.lays115_ren : Go.Shelf.Ren := ⟨fun | 115 => 12 | n => n, fun | 37 => 22 | 4 => 4 | 9 => 9 | 5 => 5 | n => n, fun | n => n⟩
theorem Tryd.lays115 : Go.Proofs.Lays.n115 Tryd.prog Tryd.lays115_ren := {
  mixed := by kernel_rfl
  f115 := Tryd.func12.trans (congrArg some (by kernel_rfl))
  t4 := Tryd.underlying4
  a4 := Tryd.isAgg4
  z4 := Tryd.sizeOf4
  v4 := Tryd.zeroValue4
  t9 := Tryd.underlying9
  a9 := Tryd.isAgg9
  z9 := Tryd.sizeOf9
  v9 := Tryd.zeroValue9
  t37 := Tryd.underlying22
  a37 := Tryd.isAgg22
  z37 := Tryd.sizeOf22
  v37 := Tryd.zeroValue22 }
/-- bytes.Equal: "Equal reports whether a and b are the same length and contain the same bytes. A nil argument is equivalent to an empty slice.": IT RETURNS 'the bytes of the one == the bytes of the other'; the world is as it was. THE TWO ARGUMENTS COME AS WHATEVER VALUES, each with the one fact that the walk wants of it: what 'string(..)' of it gives: for a slice whose cells you know: 'run_convert_bytes_arg' (Derived/Laws/BytesArg.lean) hands that fact; for a nil one: 'run_convert_bytes_nil' (with xs := []). (LAID: no walk: one application.) -/
theorem Tryd.bytes_Equal (v1 v2 : Value) (xs ys : List Int) (w : World) (h1 : (convert 22 9 v1).run Tryd.prog w = .ok (.string (strOfNums xs)) w) (h2 : (convert 22 9 v2).run Tryd.prog w = .ok (.string (strOfNums ys)) w) :
    Calls Tryd.prog 12 #[v1, v2] w fun e w' => e = .returned (.bool (Lib.bytesOf xs == Lib.bytesOf ys)) ∧ w' = w := Any.bytes_Equal Tryd.lays115 v1 v2 xs ys w h1 h2
def Tryd.laysnb117_ren : Go.Shelf.Ren := ⟨fun | 117 => 10 | 115 => 12 | n => n, fun | 37 => 22 | 4 => 4 | 3 => 3 | 9 => 9 | 5 => 5 | n => n, fun | n => n⟩
theorem Tryd.laysnb117 : Go.Proofs.Lays.nb117 Tryd.prog Tryd.laysnb117_ren := {
  mixed := by kernel_rfl
  f115 := Tryd.func12.trans (congrArg some (by kernel_rfl))
  f117 := Tryd.func10.trans (congrArg some (by kernel_rfl))
  t3 := Tryd.underlying3
  a3 := Tryd.isAgg3
  z3 := Tryd.sizeOf3
  v3 := Tryd.zeroValue3
  t4 := Tryd.underlying4
  a4 := Tryd.isAgg4
  z4 := Tryd.sizeOf4
  v4 := Tryd.zeroValue4
  t9 := Tryd.underlying9
  a9 := Tryd.isAgg9
  z9 := Tryd.sizeOf9
  v9 := Tryd.zeroValue9
  t37 := Tryd.underlying22
  a37 := Tryd.isAgg22
  z37 := Tryd.sizeOf22
  v37 := Tryd.zeroValue22
  t5 := Tryd.underlying5
  a5 := Tryd.isAgg5
  z5 := Tryd.sizeOf5
  v5 := Tryd.zeroValue5 }
/-- bytes.HasSuffix: "HasSuffix reports whether the byte slice s ends with suffix.": IT RETURNS 'Lib.hasSuffix (the bytes of s) (the bytes of suffix)'; the world is as it was. ITS CALLEE bytes.Equal IS MET BY ITS OWN CONTRACT OFF THE SHELF (lay that first). (An empty suffix too: there the model's slicing may keep the slice's address, where the cut falls at its very capacity: the value bears an 'if': 'gA' pays both arms.) (LAID: no walk: one application.) -/
theorem Tryd.bytes_HasSuffix (b1 o1 n c b2 o2 m d : Nat) (xs ys : List Int) (w : World) (hx : xs.length = n) (hy : ys.length = m) (hnc : n ≤ c) (hbig : n ≤ 9223372036854775807) (hc1 : ∀ i, i < n → w.cell? ⟨b1, o1 + i, none⟩ = some (.int .u8 (xs.getD i 0))) (hc2 : ∀ i, i < m → w.cell? ⟨b2, o2 + i, none⟩ = some (.int .u8 (ys.getD i 0))) :
    Calls Tryd.prog 10 #[.slice (some ⟨b1, o1, none⟩) n c, .slice (some ⟨b2, o2, none⟩) m d] w fun e w' => e = .returned (.bool (Lib.hasSuffix (Lib.bytesOf xs) (Lib.bytesOf ys))) ∧ w' = w := Any.bytes_HasSuffix Tryd.laysnb117 b1 o1 n c b2 o2 m d xs ys w hx hy hnc hbig hc1 hc2
end Go.Proofs
