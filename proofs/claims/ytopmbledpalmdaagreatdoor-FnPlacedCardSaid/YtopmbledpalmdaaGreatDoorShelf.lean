/-
  Three contracts of the shelf at this dump (as the kit's own tool lays them): (*strings.Builder).String, Grow at a fresh builder, utf8.DecodeRuneInString.
-/
import Derived.Shelf.Strings.Builder1
import Derived.Shelf.Strings.Builder2
import Derived.Shelf.Unicode.DecodeAny
import Derived.Test.YtopmbledpalmdaaGreatDoorProg
namespace Go.Proofs
open Go.Shelf

def Tryz.lays169_ren : Go.Shelf.Ren := ⟨fun | 169 => 53 | n => n, fun | 70 => 62 | 9 => 9 | 0 => 0 | 72 => 64 | 37 => 49 | 127 => 90 | 3 => 3 | 5 => 5 | n => n, fun | n => n⟩
theorem Tryz.lays169 : Go.Proofs.Lays.n169 Tryz.prog Tryz.lays169_ren := {
  mixed := by kernel_rfl
  f169 := Tryz.func53.trans (congrArg some (by kernel_rfl))
  t0 := Tryz.underlying0
  a0 := Tryz.isAgg0
  z0 := Tryz.sizeOf0
  v0 := Tryz.zeroValue0
  t3 := Tryz.underlying3
  a3 := Tryz.isAgg3
  z3 := Tryz.sizeOf3
  v3 := Tryz.zeroValue3
  t9 := Tryz.underlying9
  a9 := Tryz.isAgg9
  z9 := Tryz.sizeOf9
  v9 := Tryz.zeroValue9
  t37 := Tryz.underlying49
  a37 := Tryz.isAgg49
  z37 := Tryz.sizeOf49
  v37 := Tryz.zeroValue49
  t70 := Tryz.underlying62
  a70 := Tryz.isAgg62
  z70 := Tryz.sizeOf62
  v70 := Tryz.zeroValue62
  t72 := Tryz.underlying64
  a72 := Tryz.isAgg64
  z72 := Tryz.sizeOf64
  v72 := Tryz.zeroValue64
  t127 := Tryz.underlying90
  a127 := Tryz.isAgg90
  z127 := Tryz.sizeOf90
  v127 := Tryz.zeroValue90 }
theorem Tryz.Builder_Extra_169 : Builder.Extra Tryz.prog Tryz.lays169_ren := {
  sizeBuilder := by kernel_rfl
  liesBuilder := by kernel_rfl
  t5 := Tryz.underlying5
  a5 := Tryz.isAgg5
  z5 := Tryz.sizeOf5
  v5 := Tryz.zeroValue5
  infoByte := by kernel_rfl
  cellsByte := by kernel_rfl
  sizeByte := by kernel_rfl
  neB5 := by decide }
open Go.RowKit in
/-- (*strings.Builder).String: "String returns the accumulated string.": OF A BUILDER THAT HOLDS AT LEAST ONE BYTE. ✋ THE MODEL FREEZES THOSE BYTES IN THE BUFFER (unsafe.String): a later write INTO them ends the model's run without an answer; a later append BEHIND them goes on. The statement's order of evaluation is drawn: one draw. (LAID: no walk: one application.) -/
theorem Tryz.Builder_String (B b : Nat) (l : List UInt8) (w : World) (h : Lib.IsBuilder 64 5 B b (Lib.byteCells l) w) (h0 : l ≠ []) :
    Calls Tryz.prog 53 #[.pointer (some ⟨b, 0, none⟩)] w fun e w' => e = .returned (.string ⟨l.toArray⟩) ∧ Below B w w' := Any.Builder_String Tryz.lays169 Tryz.Builder_Extra_169 B b l w h h0
def Tryz.lays165_ren : Go.Shelf.Ren := ⟨fun | 165 => 50 | 240 => 60 | 241 => 61 | 276 => 83 | 277 => 84 | n => n, fun | 70 => 62 | 3 => 3 | 0 => 0 | 4 => 4 | 9 => 9 | 20 => 20 | 72 => 64 | 37 => 49 | 164 => 97 | 5 => 5 | n => n, fun | n => n⟩
theorem Tryz.lays165 : Go.Proofs.Lays.n165 Tryz.prog Tryz.lays165_ren := {
  mixed := by kernel_rfl
  f165 := Tryz.func50.trans (congrArg some (by kernel_rfl))
  f240 := Tryz.func60.trans (congrArg some (by kernel_rfl))
  f241 := Tryz.func61.trans (congrArg some (by kernel_rfl))
  f276 := Tryz.func83.trans (congrArg some (by kernel_rfl))
  f277 := Tryz.func84.trans (congrArg some (by kernel_rfl))
  t0 := Tryz.underlying0
  a0 := Tryz.isAgg0
  z0 := Tryz.sizeOf0
  v0 := Tryz.zeroValue0
  t3 := Tryz.underlying3
  a3 := Tryz.isAgg3
  z3 := Tryz.sizeOf3
  v3 := Tryz.zeroValue3
  t4 := Tryz.underlying4
  a4 := Tryz.isAgg4
  z4 := Tryz.sizeOf4
  v4 := Tryz.zeroValue4
  t9 := Tryz.underlying9
  a9 := Tryz.isAgg9
  z9 := Tryz.sizeOf9
  v9 := Tryz.zeroValue9
  t20 := Tryz.underlying20
  a20 := Tryz.isAgg20
  z20 := Tryz.sizeOf20
  v20 := Tryz.zeroValue20
  t37 := Tryz.underlying49
  a37 := Tryz.isAgg49
  z37 := Tryz.sizeOf49
  v37 := Tryz.zeroValue49
  t70 := Tryz.underlying62
  a70 := Tryz.isAgg62
  z70 := Tryz.sizeOf62
  v70 := Tryz.zeroValue62
  t72 := Tryz.underlying64
  a72 := Tryz.isAgg64
  z72 := Tryz.sizeOf64
  v72 := Tryz.zeroValue64
  t164 := Tryz.underlying97
  a164 := Tryz.isAgg97
  z164 := Tryz.sizeOf97
  v164 := Tryz.zeroValue97 }
theorem Tryz.Builder_Extra_165 : Builder.Extra Tryz.prog Tryz.lays165_ren := {
  sizeBuilder := by kernel_rfl
  liesBuilder := by kernel_rfl
  t5 := Tryz.underlying5
  a5 := Tryz.isAgg5
  z5 := Tryz.sizeOf5
  v5 := Tryz.zeroValue5
  infoByte := by kernel_rfl
  cellsByte := by kernel_rfl
  sizeByte := by kernel_rfl
  neB5 := by decide }
open Go.RowKit in
/-- (*strings.Builder).Grow AT A BUILDER THAT HAS NOT BEEN WRITTEN ('var b strings.Builder; b.Grow(n)'): "Grow grows b's capacity, if necessary, to guarantee space for another n bytes.": it holds no byte behind it as before it. (LAID: no walk: one application.) -/
theorem Tryz.Builder_Grow_fresh (B b n : Nat) (w : World) (hB : B ≤ b) (hbk : w.heap[b]? = some (.cells #[.pointer none, .slice none 0 0] 64 (0, 0))) (hBw : B ≤ w.heap.size) (hn : n ≤ 281474976710656) :
    Calls Tryz.prog 50 #[.pointer (some ⟨b, 0, none⟩), .int .i64 n] w fun e w' => e = .returned (.tuple #[]) ∧ (Lib.BuilderAt 64 5 B b (.pointer (some ⟨b, 0, none⟩)) [] w' ∧ Below B w w') := Any.Builder_Grow_fresh Tryz.lays165 Tryz.Builder_Extra_165 B b n w hB hbk hBw hn
def Tryz.lays197_ren : Go.Shelf.Ren := ⟨fun | 197 => 49 | 260 => 59 | n => n, fun | 9 => 9 | 21 => 21 | 3 => 3 | 4 => 4 | 5 => 5 | 105 => 65 | 119 => 93 | 0 => 0 | 46 => 55 | 139 => 96 | 138 => 95 | n => n, fun | 3 => 1 | 4 => 2 | n => n⟩
theorem Tryz.lays197 : Go.Proofs.Lays.n197 Tryz.prog Tryz.lays197_ren := {
  mixed := by kernel_rfl
  f197 := Tryz.func49.trans (congrArg some (by kernel_rfl))
  f260 := Tryz.func59.trans (congrArg some (by kernel_rfl))
  t0 := Tryz.underlying0
  a0 := Tryz.isAgg0
  z0 := Tryz.sizeOf0
  v0 := Tryz.zeroValue0
  t3 := Tryz.underlying3
  a3 := Tryz.isAgg3
  z3 := Tryz.sizeOf3
  v3 := Tryz.zeroValue3
  t4 := Tryz.underlying4
  a4 := Tryz.isAgg4
  z4 := Tryz.sizeOf4
  v4 := Tryz.zeroValue4
  t5 := Tryz.underlying5
  a5 := Tryz.isAgg5
  z5 := Tryz.sizeOf5
  v5 := Tryz.zeroValue5
  t9 := Tryz.underlying9
  a9 := Tryz.isAgg9
  z9 := Tryz.sizeOf9
  v9 := Tryz.zeroValue9
  t21 := Tryz.underlying21
  a21 := Tryz.isAgg21
  z21 := Tryz.sizeOf21
  v21 := Tryz.zeroValue21
  t46 := Tryz.underlying55
  a46 := Tryz.isAgg55
  z46 := Tryz.sizeOf55
  v46 := Tryz.zeroValue55
  t105 := Tryz.underlying65
  a105 := Tryz.isAgg65
  z105 := Tryz.sizeOf65
  v105 := Tryz.zeroValue65
  t119 := Tryz.underlying93
  a119 := Tryz.isAgg93
  z119 := Tryz.sizeOf93
  t138 := Tryz.underlying95
  a138 := Tryz.isAgg95
  z138 := Tryz.sizeOf95
  v138 := Tryz.zeroValue95
  t139 := Tryz.underlying96
  a139 := Tryz.isAgg96
  z139 := Tryz.sizeOf96
  v139 := Tryz.zeroValue96
  g3 := by kernel_rfl
  g4 := by kernel_rfl }
open Go.RowKit Go.Lib in
/-- **unicode/utf8.DecodeRuneInString AT EVERY STRING.** (LAID: no walk: one application.) -/
theorem Tryz.utf8_DecodeRuneInString (s : ByteArray) (w : World) (hT : Lib.Utf8Tabs 1 2 w) :
    Calls Tryz.prog 49 #[.string s] w fun e w' => e = .returned (.tuple #[.int .i32 (Lib.decodeGo s).1, .int .i64 (Lib.decodeGo s).2]) ∧ Below w.heap.size w w' := Any.utf8_DecodeRuneInString Tryz.lays197 s w hT
end Go.Proofs
