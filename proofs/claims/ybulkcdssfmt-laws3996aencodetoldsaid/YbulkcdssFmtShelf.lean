/-
  The contracts of strings.IndexFunc and encoding/hex.DecodeString at this program: written by the shelf's own tools (lay-shelf.mjs, lay-plain.mjs), all other contracts struck.
-/
import Derived.Shelf.GgClosure.StringsIndexFuncTop
import Derived.Shelf.GgClosure.StringsRunes
import Derived.Shelf.Hex.Decode
import Derived.Test.YbulkcdssFmtProg
namespace Go.Proofs
open Go.Shelf
def Ybaf.laysGw15_ren : Go.Shelf.Ren := ⟨fun | 15 => 23 | 20 => 32 | n => n, fun | 9 => 9 | 23 => 75 | 3 => 3 | 4 => 4 | 0 => 0 | 21 => 21 | n => n, fun | n => n⟩
theorem Ybaf.laysGw15 : Go.Proofs.LaysGw.n15 Ybaf.prog Ybaf.laysGw15_ren := {
  mixed := by kernel_rfl
  f15 := Ybaf.func23.trans (congrArg some (by kernel_rfl))
  f20 := Ybaf.func32.trans (congrArg some (by kernel_rfl))
  t0 := Ybaf.underlying0
  a0 := Ybaf.isAgg0
  z0 := Ybaf.sizeOf0
  v0 := Ybaf.zeroValue0
  i0 := by kernel_rfl
  t3 := Ybaf.underlying3
  a3 := Ybaf.isAgg3
  z3 := Ybaf.sizeOf3
  v3 := Ybaf.zeroValue3
  i3 := by kernel_rfl
  t4 := Ybaf.underlying4
  a4 := Ybaf.isAgg4
  z4 := Ybaf.sizeOf4
  v4 := Ybaf.zeroValue4
  i4 := by kernel_rfl
  t9 := Ybaf.underlying9
  a9 := Ybaf.isAgg9
  z9 := Ybaf.sizeOf9
  v9 := Ybaf.zeroValue9
  i9 := by kernel_rfl
  t21 := Ybaf.underlying21
  a21 := Ybaf.isAgg21
  z21 := Ybaf.sizeOf21
  v21 := Ybaf.zeroValue21
  i21 := by kernel_rfl
  t23 := Ybaf.underlying75
  a23 := Ybaf.isAgg75
  z23 := Ybaf.sizeOf75
  v23 := Ybaf.zeroValue75
  i23 := by kernel_rfl }
open Go.RowKit Go.Lib in
theorem Ybaf.strings_IndexFunc_runes (g : Nat) (lb : Array Value) (eg : ∀ args w, (callFunc g args).run Ybaf.prog w = .ok (.enter g args) w) (p : Nat → Bool) (s : ByteArray) (w : World) (hp : PredAtRunes Ybaf.prog g lb p w) :
    Calls Ybaf.prog 23 #[.string s, .func (.func g) #[] lb] w fun e w' => e = .returned (.int .i64 (Lib.idxFunc p true s)) ∧ Below w.heap.size w w' := Any.strings_IndexFunc_runes Ybaf.laysGw15 g lb eg p s w hp
def Ybaf.laysPah43_ren : Go.Shelf.Ren := ⟨fun | 43 => 26 | 42 => 33 | 44 => 34 | n => n, fun | 9 => 9 | 30 => 22 | 35 => 32 | 3 => 3 | 38 => 69 | 4 => 4 | 0 => 0 | 5 => 5 | 47 => 93 | 46 => 35 | 45 => 104 | n => n, fun | 0 => 6 | n => n⟩
theorem Ybaf.laysPah43 : Go.Proofs.Lays.ph43 Ybaf.prog Ybaf.laysPah43_ren := {
  mixed := by kernel_rfl
  f42 := Ybaf.func33.trans (congrArg some (by kernel_rfl))
  f43 := Ybaf.func26.trans (congrArg some (by kernel_rfl))
  f44 := Ybaf.func34.trans (congrArg some (by kernel_rfl))
  t0 := Ybaf.underlying0
  a0 := Ybaf.isAgg0
  z0 := Ybaf.sizeOf0
  v0 := Ybaf.zeroValue0
  t3 := Ybaf.underlying3
  a3 := Ybaf.isAgg3
  z3 := Ybaf.sizeOf3
  v3 := Ybaf.zeroValue3
  t4 := Ybaf.underlying4
  a4 := Ybaf.isAgg4
  z4 := Ybaf.sizeOf4
  v4 := Ybaf.zeroValue4
  t5 := Ybaf.underlying5
  a5 := Ybaf.isAgg5
  z5 := Ybaf.sizeOf5
  v5 := Ybaf.zeroValue5
  t9 := Ybaf.underlying9
  a9 := Ybaf.isAgg9
  z9 := Ybaf.sizeOf9
  v9 := Ybaf.zeroValue9
  t30 := Ybaf.underlying22
  a30 := Ybaf.isAgg22
  z30 := Ybaf.sizeOf22
  v30 := Ybaf.zeroValue22
  t35 := Ybaf.underlying32
  a35 := Ybaf.isAgg32
  z35 := Ybaf.sizeOf32
  v35 := Ybaf.zeroValue32
  t38 := Ybaf.underlying69
  a38 := Ybaf.isAgg69
  z38 := Ybaf.sizeOf69
  v38 := Ybaf.zeroValue69
  t45 := Ybaf.underlying104
  a45 := Ybaf.isAgg104
  z45 := Ybaf.sizeOf104
  v45 := Ybaf.zeroValue104
  t46 := Ybaf.underlying35
  a46 := Ybaf.isAgg35
  z46 := Ybaf.sizeOf35
  v46 := Ybaf.zeroValue35
  t47 := Ybaf.underlying93
  a47 := Ybaf.isAgg93
  z47 := Ybaf.sizeOf93
  v47 := Ybaf.zeroValue93
  g0 := by kernel_rfl
  info5 := by kernel_rfl }
open Go.RowKit Go.Lib in
theorem Ybaf.hex_DecodeString (s : ByteArray) (w : World) (ev : Value) (hE : w.cell? ⟨6, 0, none⟩ = some ev) (hbig : s.size ≤ 281474976710656) :
    Calls Ybaf.prog 26 #[.string s] w fun e w' =>
      e = .returned (.tuple #[.slice (some ⟨w.heap.size, 0, none⟩) (Hx.decode s.data.toList).1.length (s.size / 2), Hx.errVal 93 ev (Hx.decode s.data.toList).2]) ∧
      w'.rowIs w.heap.size 5 (s.size / 2) (Hx.rowP (fun _ => .int .u8 0) 0 (Hx.decode s.data.toList).1) ∧ Below w.heap.size w w' := Any.hex_DecodeString Ybaf.laysPah43 s w ev hE hbig
end Go.Proofs
