import Derived.Shelf.Strings.Builder1
import Derived.Shelf.Strings.Builder2
import Derived.Shelf.Small.Strs
import Derived.Test.Qxb6605763aDoorProg
namespace Go.Proofs
open Go.Shelf
def Tryd.lays170_ren : Go.Shelf.Ren := ⟨fun | 170 => 29 | n => n, fun | 70 => 43 | 3 => 3 | 0 => 0 | 72 => 46 | 37 => 44 | 5 => 5 | n => n, fun | n => n⟩
theorem Tryd.lays170 : Go.Proofs.Lays.n170 Tryd.prog Tryd.lays170_ren := {
  mixed := by kernel_rfl
  f170 := Tryd.func29.trans (congrArg some (by kernel_rfl))
  t0 := Tryd.underlying0
  a0 := Tryd.isAgg0
  z0 := Tryd.sizeOf0
  v0 := Tryd.zeroValue0
  t3 := Tryd.underlying3
  a3 := Tryd.isAgg3
  z3 := Tryd.sizeOf3
  v3 := Tryd.zeroValue3
  t37 := Tryd.underlying44
  a37 := Tryd.isAgg44
  z37 := Tryd.sizeOf44
  v37 := Tryd.zeroValue44
  t70 := Tryd.underlying43
  a70 := Tryd.isAgg43
  z70 := Tryd.sizeOf43
  v70 := Tryd.zeroValue43
  t72 := Tryd.underlying46
  a72 := Tryd.isAgg46
  z72 := Tryd.sizeOf46
  v72 := Tryd.zeroValue46 }
open Go.RowKit in
theorem Tryd.Builder_Len (B b : Nat) (bs : List Value) (w : World) (h : Lib.IsBuilder 46 5 B b bs w) :
    Calls Tryd.prog 29 #[.pointer (some ⟨b, 0, none⟩)] w fun e w' => e = .returned (.int .i64 bs.length) ∧ w' = w := Any.Builder_Len Tryd.lays170 B b bs w h
def Tryd.lays169_ren : Go.Shelf.Ren := ⟨fun | 169 => 33 | n => n, fun | 70 => 43 | 9 => 9 | 0 => 0 | 72 => 46 | 37 => 44 | 127 => 66 | 3 => 3 | 5 => 5 | n => n, fun | n => n⟩
theorem Tryd.lays169 : Go.Proofs.Lays.n169 Tryd.prog Tryd.lays169_ren := {
  mixed := by kernel_rfl
  f169 := Tryd.func33.trans (congrArg some (by kernel_rfl))
  t0 := Tryd.underlying0
  a0 := Tryd.isAgg0
  z0 := Tryd.sizeOf0
  v0 := Tryd.zeroValue0
  t3 := Tryd.underlying3
  a3 := Tryd.isAgg3
  z3 := Tryd.sizeOf3
  v3 := Tryd.zeroValue3
  t9 := Tryd.underlying9
  a9 := Tryd.isAgg9
  z9 := Tryd.sizeOf9
  v9 := Tryd.zeroValue9
  t37 := Tryd.underlying44
  a37 := Tryd.isAgg44
  z37 := Tryd.sizeOf44
  v37 := Tryd.zeroValue44
  t70 := Tryd.underlying43
  a70 := Tryd.isAgg43
  z70 := Tryd.sizeOf43
  v70 := Tryd.zeroValue43
  t72 := Tryd.underlying46
  a72 := Tryd.isAgg46
  z72 := Tryd.sizeOf46
  v72 := Tryd.zeroValue46
  t127 := Tryd.underlying66
  a127 := Tryd.isAgg66
  z127 := Tryd.sizeOf66
  v127 := Tryd.zeroValue66 }
theorem Tryd.Builder_Extra_169 : Builder.Extra Tryd.prog Tryd.lays169_ren := {
  sizeBuilder := by kernel_rfl
  liesBuilder := by kernel_rfl
  t5 := Tryd.underlying5
  a5 := Tryd.isAgg5
  z5 := Tryd.sizeOf5
  v5 := Tryd.zeroValue5
  infoByte := by kernel_rfl
  cellsByte := by kernel_rfl
  sizeByte := by kernel_rfl
  neB5 := by decide }
open Go.RowKit in
theorem Tryd.Builder_String (B b : Nat) (l : List UInt8) (w : World) (h : Lib.IsBuilder 46 5 B b (Lib.byteCells l) w) (h0 : l ≠ []) :
    Calls Tryd.prog 33 #[.pointer (some ⟨b, 0, none⟩)] w fun e w' => e = .returned (.string ⟨l.toArray⟩) ∧ Below B w w' := Any.Builder_String Tryd.lays169 Tryd.Builder_Extra_169 B b l w h h0
open Go.RowKit in
theorem Tryd.Builder_String_empty (B b : Nat) (w : World) (h : Lib.IsBuilder 46 5 B b [] w) (hBw : B ≤ w.heap.size) :
    Calls Tryd.prog 33 #[.pointer (some ⟨b, 0, none⟩)] w fun e w' => e = .returned (.string ⟨#[]⟩) ∧ Below B w w' := Any.Builder_String_empty Tryd.lays169 Tryd.Builder_Extra_169 B b w h hBw
open Go.RowKit in
theorem Tryd.Builder_String_any (B b : Nat) (l : List UInt8) (w : World) (h : Lib.IsBuilder 46 5 B b (Lib.byteCells l) w) (hBw : B ≤ w.heap.size) :
    Calls Tryd.prog 33 #[.pointer (some ⟨b, 0, none⟩)] w fun e w' => e = .returned (.string ⟨l.toArray⟩) ∧ Below B w w' := Any.Builder_String_any Tryd.lays169 Tryd.Builder_Extra_169 B b l w h hBw
def Tryd.lays241_ren : Go.Shelf.Ren := ⟨fun | 241 => 36 | 277 => 45 | n => n, fun | 70 => 43 | 3 => 3 | 0 => 0 | 72 => 46 | 37 => 44 | 5 => 5 | n => n, fun | n => n⟩
theorem Tryd.lays241 : Go.Proofs.Lays.n241 Tryd.prog Tryd.lays241_ren := {
  mixed := by kernel_rfl
  f241 := Tryd.func36.trans (congrArg some (by kernel_rfl))
  f277 := Tryd.func45.trans (congrArg some (by kernel_rfl))
  t0 := Tryd.underlying0
  a0 := Tryd.isAgg0
  z0 := Tryd.sizeOf0
  v0 := Tryd.zeroValue0
  t3 := Tryd.underlying3
  a3 := Tryd.isAgg3
  z3 := Tryd.sizeOf3
  v3 := Tryd.zeroValue3
  t37 := Tryd.underlying44
  a37 := Tryd.isAgg44
  z37 := Tryd.sizeOf44
  v37 := Tryd.zeroValue44
  t70 := Tryd.underlying43
  a70 := Tryd.isAgg43
  z70 := Tryd.sizeOf43
  v70 := Tryd.zeroValue43
  t72 := Tryd.underlying46
  a72 := Tryd.isAgg46
  z72 := Tryd.sizeOf46
  v72 := Tryd.zeroValue46 }
theorem Tryd.Builder_Extra_241 : Builder.Extra Tryd.prog Tryd.lays241_ren := {
  sizeBuilder := by kernel_rfl
  liesBuilder := by kernel_rfl
  t5 := Tryd.underlying5
  a5 := Tryd.isAgg5
  z5 := Tryd.sizeOf5
  v5 := Tryd.zeroValue5
  infoByte := by kernel_rfl
  cellsByte := by kernel_rfl
  sizeByte := by kernel_rfl
  neB5 := by decide }
open Go.RowKit in
theorem Tryd.Builder_grow_fresh (B b n : Nat) (w : World) (hB : B ≤ b) (hbk : w.heap[b]? = some (.cells #[.pointer (some ⟨b, 0, none⟩), .slice none 0 0] 46 (0, 0))) (hBw : B ≤ w.heap.size) (hn : n ≤ 281474976710656) :
    Calls Tryd.prog 36 #[.pointer (some ⟨b, 0, none⟩), .int .i64 n] w fun e w' => e = .returned (.tuple #[]) ∧ (Lib.BuilderAt 46 5 B b (.pointer (some ⟨b, 0, none⟩)) [] w' ∧ Below B w w') := Any.Builder_grow_fresh Tryd.lays241 Tryd.Builder_Extra_241 B b n w hB hbk hBw hn
def Tryd.lays165_ren : Go.Shelf.Ren := ⟨fun | 165 => 23 | 240 => 35 | 241 => 36 | 276 => 44 | 277 => 45 | n => n, fun | 70 => 43 | 3 => 3 | 0 => 0 | 4 => 4 | 9 => 9 | 20 => 20 | 72 => 46 | 37 => 44 | 164 => 67 | 5 => 5 | n => n, fun | n => n⟩
theorem Tryd.lays165 : Go.Proofs.Lays.n165 Tryd.prog Tryd.lays165_ren := {
  mixed := by kernel_rfl
  f165 := Tryd.func23.trans (congrArg some (by kernel_rfl))
  f240 := Tryd.func35.trans (congrArg some (by kernel_rfl))
  f241 := Tryd.func36.trans (congrArg some (by kernel_rfl))
  f276 := Tryd.func44.trans (congrArg some (by kernel_rfl))
  f277 := Tryd.func45.trans (congrArg some (by kernel_rfl))
  t0 := Tryd.underlying0
  a0 := Tryd.isAgg0
  z0 := Tryd.sizeOf0
  v0 := Tryd.zeroValue0
  t3 := Tryd.underlying3
  a3 := Tryd.isAgg3
  z3 := Tryd.sizeOf3
  v3 := Tryd.zeroValue3
  t4 := Tryd.underlying4
  a4 := Tryd.isAgg4
  z4 := Tryd.sizeOf4
  v4 := Tryd.zeroValue4
  t9 := Tryd.underlying9
  a9 := Tryd.isAgg9
  z9 := Tryd.sizeOf9
  v9 := Tryd.zeroValue9
  t20 := Tryd.underlying20
  a20 := Tryd.isAgg20
  z20 := Tryd.sizeOf20
  v20 := Tryd.zeroValue20
  t37 := Tryd.underlying44
  a37 := Tryd.isAgg44
  z37 := Tryd.sizeOf44
  v37 := Tryd.zeroValue44
  t70 := Tryd.underlying43
  a70 := Tryd.isAgg43
  z70 := Tryd.sizeOf43
  v70 := Tryd.zeroValue43
  t72 := Tryd.underlying46
  a72 := Tryd.isAgg46
  z72 := Tryd.sizeOf46
  v72 := Tryd.zeroValue46
  t164 := Tryd.underlying67
  a164 := Tryd.isAgg67
  z164 := Tryd.sizeOf67
  v164 := Tryd.zeroValue67 }
theorem Tryd.Builder_Extra_165 : Builder.Extra Tryd.prog Tryd.lays165_ren := {
  sizeBuilder := by kernel_rfl
  liesBuilder := by kernel_rfl
  t5 := Tryd.underlying5
  a5 := Tryd.isAgg5
  z5 := Tryd.sizeOf5
  v5 := Tryd.zeroValue5
  infoByte := by kernel_rfl
  cellsByte := by kernel_rfl
  sizeByte := by kernel_rfl
  neB5 := by decide }
open Go.RowKit in
theorem Tryd.Builder_Grow_fresh (B b n : Nat) (w : World) (hB : B ≤ b) (hbk : w.heap[b]? = some (.cells #[.pointer none, .slice none 0 0] 46 (0, 0))) (hBw : B ≤ w.heap.size) (hn : n ≤ 281474976710656) :
    Calls Tryd.prog 23 #[.pointer (some ⟨b, 0, none⟩), .int .i64 n] w fun e w' => e = .returned (.tuple #[]) ∧ (Lib.BuilderAt 46 5 B b (.pointer (some ⟨b, 0, none⟩)) [] w' ∧ Below B w w') := Any.Builder_Grow_fresh Tryd.lays165 Tryd.Builder_Extra_165 B b n w hB hbk hBw hn
def Tryd.lays137_ren : Go.Shelf.Ren := ⟨fun | 137 => 34 | 217 => 43 | 266 => 49 | n => n, fun | 9 => 9 | 5 => 5 | 3 => 3 | n => n, fun | n => n⟩
theorem Tryd.lays137 : Go.Proofs.Lays.n137 Tryd.prog Tryd.lays137_ren := {
  mixed := by kernel_rfl
  f137 := Tryd.func34.trans (congrArg some (by kernel_rfl))
  f217 := Tryd.func43.trans (congrArg some (by kernel_rfl))
  f266 := Tryd.func49.trans (congrArg some (by kernel_rfl))
  t3 := Tryd.underlying3
  a3 := Tryd.isAgg3
  z3 := Tryd.sizeOf3
  v3 := Tryd.zeroValue3
  t5 := Tryd.underlying5
  a5 := Tryd.isAgg5
  z5 := Tryd.sizeOf5
  v5 := Tryd.zeroValue5
  t9 := Tryd.underlying9
  a9 := Tryd.isAgg9
  z9 := Tryd.sizeOf9
  v9 := Tryd.zeroValue9 }
open Go.RowKit in
theorem Tryd.strings_IndexByte (s : ByteArray) (c : Int) (w : World) :
    Calls Tryd.prog 34 #[.string s, .int .u8 c] w fun e w' => e = .returned (.int .i64 (Lib.indexByte s.data.toList c.toNat.toUInt8)) ∧ w' = w := Any.strings_IndexByte Tryd.lays137 s c w
def Tryd.lays167_ren : Go.Shelf.Ren := ⟨fun | 167 => 25 | 240 => 35 | 276 => 44 | n => n, fun | 70 => 43 | 3 => 3 | 0 => 0 | 4 => 4 | 9 => 9 | 20 => 20 | 72 => 46 | 37 => 44 | 164 => 67 | 5 => 5 | 75 => 49 | 80 => 35 | n => n, fun | n => n⟩
theorem Tryd.lays167 : Go.Proofs.Lays.n167 Tryd.prog Tryd.lays167_ren := {
  mixed := by kernel_rfl
  f167 := Tryd.func25.trans (congrArg some (by kernel_rfl))
  f240 := Tryd.func35.trans (congrArg some (by kernel_rfl))
  f276 := Tryd.func44.trans (congrArg some (by kernel_rfl))
  t0 := Tryd.underlying0
  a0 := Tryd.isAgg0
  z0 := Tryd.sizeOf0
  v0 := Tryd.zeroValue0
  t4 := Tryd.underlying4
  a4 := Tryd.isAgg4
  z4 := Tryd.sizeOf4
  v4 := Tryd.zeroValue4
  t5 := Tryd.underlying5
  a5 := Tryd.isAgg5
  z5 := Tryd.sizeOf5
  v5 := Tryd.zeroValue5
  t9 := Tryd.underlying9
  a9 := Tryd.isAgg9
  z9 := Tryd.sizeOf9
  v9 := Tryd.zeroValue9
  t20 := Tryd.underlying20
  a20 := Tryd.isAgg20
  z20 := Tryd.sizeOf20
  v20 := Tryd.zeroValue20
  t37 := Tryd.underlying44
  a37 := Tryd.isAgg44
  z37 := Tryd.sizeOf44
  v37 := Tryd.zeroValue44
  t70 := Tryd.underlying43
  a70 := Tryd.isAgg43
  z70 := Tryd.sizeOf43
  v70 := Tryd.zeroValue43
  t72 := Tryd.underlying46
  a72 := Tryd.isAgg46
  z72 := Tryd.sizeOf46
  v72 := Tryd.zeroValue46
  t75 := Tryd.underlying49
  a75 := Tryd.isAgg49
  z75 := Tryd.sizeOf49
  v75 := Tryd.zeroValue49
  t164 := Tryd.underlying67
  a164 := Tryd.isAgg67
  z164 := Tryd.sizeOf67
  v164 := Tryd.zeroValue67 }
theorem Tryd.Builder_Extra_167 : Builder.Extra Tryd.prog Tryd.lays167_ren := {
  sizeBuilder := by kernel_rfl
  liesBuilder := by kernel_rfl
  t5 := Tryd.underlying5
  a5 := Tryd.isAgg5
  z5 := Tryd.sizeOf5
  v5 := Tryd.zeroValue5
  infoByte := by kernel_rfl
  cellsByte := by kernel_rfl
  sizeByte := by kernel_rfl
  neB5 := by decide }
def Tryd.lays166_ren : Go.Shelf.Ren := ⟨fun | 166 => 24 | 240 => 35 | 276 => 44 | n => n, fun | 70 => 43 | 3 => 3 | 0 => 0 | 4 => 4 | 9 => 9 | 20 => 20 | 72 => 46 | 37 => 44 | 164 => 67 | 5 => 5 | 75 => 49 | 80 => 35 | n => n, fun | n => n⟩
theorem Tryd.lays166 : Go.Proofs.Lays.n166 Tryd.prog Tryd.lays166_ren := {
  mixed := by kernel_rfl
  f166 := Tryd.func24.trans (congrArg some (by kernel_rfl))
  f240 := Tryd.func35.trans (congrArg some (by kernel_rfl))
  f276 := Tryd.func44.trans (congrArg some (by kernel_rfl))
  t0 := Tryd.underlying0
  a0 := Tryd.isAgg0
  z0 := Tryd.sizeOf0
  v0 := Tryd.zeroValue0
  t3 := Tryd.underlying3
  a3 := Tryd.isAgg3
  z3 := Tryd.sizeOf3
  v3 := Tryd.zeroValue3
  t4 := Tryd.underlying4
  a4 := Tryd.isAgg4
  z4 := Tryd.sizeOf4
  v4 := Tryd.zeroValue4
  t9 := Tryd.underlying9
  a9 := Tryd.isAgg9
  z9 := Tryd.sizeOf9
  v9 := Tryd.zeroValue9
  t20 := Tryd.underlying20
  a20 := Tryd.isAgg20
  z20 := Tryd.sizeOf20
  v20 := Tryd.zeroValue20
  t37 := Tryd.underlying44
  a37 := Tryd.isAgg44
  z37 := Tryd.sizeOf44
  v37 := Tryd.zeroValue44
  t70 := Tryd.underlying43
  a70 := Tryd.isAgg43
  z70 := Tryd.sizeOf43
  v70 := Tryd.zeroValue43
  t72 := Tryd.underlying46
  a72 := Tryd.isAgg46
  z72 := Tryd.sizeOf46
  v72 := Tryd.zeroValue46
  t75 := Tryd.underlying49
  a75 := Tryd.isAgg49
  z75 := Tryd.sizeOf49
  v75 := Tryd.zeroValue49
  t164 := Tryd.underlying67
  a164 := Tryd.isAgg67
  z164 := Tryd.sizeOf67
  v164 := Tryd.zeroValue67 }
theorem Tryd.Builder_Extra_166 : Builder.Extra Tryd.prog Tryd.lays166_ren := {
  sizeBuilder := by kernel_rfl
  liesBuilder := by kernel_rfl
  t5 := Tryd.underlying5
  a5 := Tryd.isAgg5
  z5 := Tryd.sizeOf5
  v5 := Tryd.zeroValue5
  infoByte := by kernel_rfl
  cellsByte := by kernel_rfl
  sizeByte := by kernel_rfl
  neB5 := by decide }
open Go.RowKit in
theorem Tryd.Builder_WriteByte (B b : Nat) (bs : List Value) (c : Int) (w : World) (h : Lib.IsBuilder 46 5 B b bs w) (hlen : bs.length + 1 ≤ 140737488355328) (hBw : B ≤ w.heap.size) :
    Calls Tryd.prog 25 #[.pointer (some ⟨b, 0, none⟩), .int .u8 c] w fun e w' => e = .returned .nilIface ∧ (Lib.BuilderAt 46 5 B b (.pointer (some ⟨b, 0, none⟩)) (bs ++ [.int .u8 c]) w' ∧ Below B w w') :=
  Any.Builder_WriteByte Tryd.lays167 Tryd.Builder_Extra_167 B b bs c w h hlen hBw
open Go.RowKit in
theorem Tryd.Builder_WriteString (B b : Nat) (bs : List Value) (s : ByteArray) (w : World) (h : Lib.IsBuilder 46 5 B b bs w) (hlen : bs.length + s.size ≤ 140737488355328) (hBw : B ≤ w.heap.size) :
    Calls Tryd.prog 24 #[.pointer (some ⟨b, 0, none⟩), .string s] w fun e w' => e = .returned (.tuple #[.int .i64 s.size, .nilIface]) ∧ (Lib.BuilderAt 46 5 B b (.pointer (some ⟨b, 0, none⟩)) (bs ++ Lib.strCells s) w' ∧ Below B w w') :=
  Any.Builder_WriteString Tryd.lays166 Tryd.Builder_Extra_166 B b bs s w h hlen hBw
end Go.Proofs
