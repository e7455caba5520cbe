import Derived.Shelf.Strings.Builder1
import Derived.Shelf.Strings.Builder2
import Derived.Shelf.Strings.OnBuilder
import Derived.Shelf.Slices.Turned
import Derived.Test.Qxb6618968aProg
namespace Go.Proofs
open Go.Shelf
def Try.lays156_ren : Go.Shelf.Ren := ⟨fun | 156 => 22 | 165 => 26 | 166 => 27 | 169 => 28 | 240 => 30 | 241 => 31 | 276 => 32 | 277 => 33 | n => n, fun | 31 => 22 | 9 => 9 | 3 => 3 | 4 => 4 | 0 => 0 | 20 => 20 | 72 => 56 | 76 => 60 | 70 => 54 | 37 => 49 | 75 => 59 | 127 => 64 | 164 => 65 | 5 => 5 | 80 => 62 | n => n, fun | n => n⟩
theorem Try.lays156 : Go.Proofs.Lays.n156 Try.prog Try.lays156_ren := {
  mixed := by kernel_rfl
  f156 := Try.func22.trans (congrArg some (by kernel_rfl))
  f165 := Try.func26.trans (congrArg some (by kernel_rfl))
  f166 := Try.func27.trans (congrArg some (by kernel_rfl))
  f169 := Try.func28.trans (congrArg some (by kernel_rfl))
  f240 := Try.func30.trans (congrArg some (by kernel_rfl))
  f241 := Try.func31.trans (congrArg some (by kernel_rfl))
  f276 := Try.func32.trans (congrArg some (by kernel_rfl))
  f277 := Try.func33.trans (congrArg some (by kernel_rfl))
  t0 := Try.underlying0
  a0 := Try.isAgg0
  z0 := Try.sizeOf0
  v0 := Try.zeroValue0
  t3 := Try.underlying3
  a3 := Try.isAgg3
  z3 := Try.sizeOf3
  v3 := Try.zeroValue3
  t4 := Try.underlying4
  a4 := Try.isAgg4
  z4 := Try.sizeOf4
  v4 := Try.zeroValue4
  t9 := Try.underlying9
  a9 := Try.isAgg9
  z9 := Try.sizeOf9
  v9 := Try.zeroValue9
  t20 := Try.underlying20
  a20 := Try.isAgg20
  z20 := Try.sizeOf20
  v20 := Try.zeroValue20
  t31 := Try.underlying22
  a31 := Try.isAgg22
  z31 := Try.sizeOf22
  v31 := Try.zeroValue22
  t37 := Try.underlying49
  a37 := Try.isAgg49
  z37 := Try.sizeOf49
  v37 := Try.zeroValue49
  t70 := Try.underlying54
  a70 := Try.isAgg54
  z70 := Try.sizeOf54
  v70 := Try.zeroValue54
  t72 := Try.underlying56
  a72 := Try.isAgg56
  z72 := Try.sizeOf56
  v72 := Try.zeroValue56
  t75 := Try.underlying59
  a75 := Try.isAgg59
  z75 := Try.sizeOf59
  v75 := Try.zeroValue59
  t76 := Try.underlying60
  a76 := Try.isAgg60
  z76 := Try.sizeOf60
  v76 := Try.zeroValue60
  t127 := Try.underlying64
  a127 := Try.isAgg64
  z127 := Try.sizeOf64
  v127 := Try.zeroValue64
  t164 := Try.underlying65
  a164 := Try.isAgg65
  z164 := Try.sizeOf65
  v164 := Try.zeroValue65 }
theorem Try.Builder_Extra_156 : Builder.Extra Try.prog Try.lays156_ren := {
  sizeBuilder := by kernel_rfl
  liesBuilder := by kernel_rfl
  t5 := Try.underlying5
  a5 := Try.isAgg5
  z5 := Try.sizeOf5
  v5 := Try.zeroValue5
  infoByte := by kernel_rfl
  cellsByte := by kernel_rfl
  sizeByte := by kernel_rfl
  neB5 := by decide }
open Go.RowKit in
/-- No element: the empty string; the world is as it was. (Whatever the slice's address and capacity: a nil slice too.) (LAID: no walk: one application.) -/
theorem Try.strings_Join_none (a : Option Addr) (c : Nat) (sep : ByteArray) (w : World) :
    Calls Try.prog 22 #[.slice a 0 c, .string sep] w fun e w' => e = .returned (.string ⟨#[]⟩) ∧ w' = w := Any.strings_Join_none Try.lays156 Try.Builder_Extra_156 a c sep w
open Go.RowKit in
/-- strings.Join: "Join concatenates the elements of its first argument to create a single string. The separator string sep is placed between elements in the resulting string.": HOWEVER MANY ELEMENTS. Below the heap's end the world is as it was. (LAID: no walk: one application.) -/
theorem Try.strings_Join (bk o c : Nat) (xs : List ByteArray) (sep : ByteArray) (w : World) (hcells : ∀ (j : Nat) x, xs[j]? = some x → w.cell? ⟨bk, o + j, none⟩ = some (.string x)) (hbk : bk < w.heap.size) (hN : xs.length ≤ 140737488355328) (hcap : xs.length ≤ c) (hlen : (Lib.join (xs.map (·.data.toList)) sep.data.toList).length ≤ 140737488355328) :
    Calls Try.prog 22 #[.slice (some ⟨bk, o, none⟩) xs.length c, .string sep] w fun e w' => e = .returned (.string ⟨(Lib.join (xs.map (·.data.toList)) sep.data.toList).toArray⟩) ∧ Below w.heap.size w w' := Any.strings_Join Try.lays156 Try.Builder_Extra_156 bk o c xs sep w hcells hbk hN hcap hlen
def Try.lays110_ren : Go.Shelf.Ren := ⟨fun | 110 => 24 | 109 => 29 | n => n, fun | 31 => 22 | 9 => 9 | 4 => 4 | 3 => 3 | 0 => 0 | n => n, fun | n => n⟩
theorem Try.lays110 : Go.Proofs.Lays.n110 Try.prog Try.lays110_ren := {
  mixed := by kernel_rfl
  f109 := Try.func29.trans (congrArg some (by kernel_rfl))
  f110 := Try.func24.trans (congrArg some (by kernel_rfl))
  t0 := Try.underlying0
  a0 := Try.isAgg0
  z0 := Try.sizeOf0
  v0 := Try.zeroValue0
  t3 := Try.underlying3
  a3 := Try.isAgg3
  z3 := Try.sizeOf3
  v3 := Try.zeroValue3
  t4 := Try.underlying4
  a4 := Try.isAgg4
  z4 := Try.sizeOf4
  v4 := Try.zeroValue4
  t9 := Try.underlying9
  a9 := Try.isAgg9
  z9 := Try.sizeOf9
  v9 := Try.zeroValue9
  t31 := Try.underlying22
  a31 := Try.isAgg22
  z31 := Try.sizeOf22
  v31 := Try.zeroValue22 }
open Go.Lib in
/-- slices.Contains at []string: "Contains reports whether v is present in s.": IT RETURNS 'Lib.containsS (the elements) v', which is true just where v is among them ('Lib.containsS_iff'); the world is as it was. ITS CALLEE slices.Index IS MET BY ITS OWN CONTRACT OFF THE SHELF (lay that first): no loop is walked here. (LAID: no walk: one application.) -/
theorem Try.slices_Contains_string (b off n c : Nat) (zs : List ByteArray) (x : ByteArray) (w : World) (hz : n ≤ zs.length) (hbig : n ≤ 9223372036854775807) (hc : ∀ j, j < zs.length → w.cell? ⟨b, off + j, none⟩ = some (.string (zs.getD j ByteArray.empty))) :
    Calls Try.prog 24 #[.slice (some ⟨b, off, none⟩) n c, .string x] w fun e w' => e = .returned (.bool (Lib.containsS (zs.take n) x)) ∧ w' = w := Any.slices_Contains_string Try.lays110 b off n c zs x w hz hbig hc
open Go.Lib in
/-- The same at a slice of length 0, a nil one too. (LAID: no walk: one application.) -/
theorem Try.slices_Contains_string_empty (a : Option Addr) (c : Nat) (x : ByteArray) (w : World) :
    Calls Try.prog 24 #[.slice a 0 c, .string x] w fun e w' => e = .returned (.bool false) ∧ w' = w := Any.slices_Contains_string_empty Try.lays110 a c x w
end Go.Proofs
