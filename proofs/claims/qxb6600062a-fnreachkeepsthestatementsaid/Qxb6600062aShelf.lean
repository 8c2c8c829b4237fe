/-
  Seat b6600062a: the shelf's contracts for strings.Builder, laid at this dump in plain words (lay-plain's own text; the laying of WriteString by hand, in the same form).
-/
import Derived.Shelf.Strings.Builder1
import Derived.Shelf.Strings.Builder2
import Derived.Test.Qxb6600062aProg
namespace Go.Proofs
open Go.Shelf
def Try.lays170_ren : Go.Shelf.Ren := ⟨fun | 170 => 40 | n => n, fun | 70 => 54 | 3 => 3 | 0 => 0 | 72 => 56 | 37 => 33 | 5 => 5 | n => n, fun | n => n⟩
theorem Try.lays170 : Go.Proofs.Lays.n170 Try.prog Try.lays170_ren := {
  mixed := by kernel_rfl
  f170 := Try.func40.trans (congrArg some (by kernel_rfl))
  t0 := Try.underlying0
  a0 := Try.isAgg0
  z0 := Try.sizeOf0
  v0 := Try.zeroValue0
  t3 := Try.underlying3
  a3 := Try.isAgg3
  z3 := Try.sizeOf3
  v3 := Try.zeroValue3
  t37 := Try.underlying33
  a37 := Try.isAgg33
  z37 := Try.sizeOf33
  v37 := Try.zeroValue33
  t70 := Try.underlying54
  a70 := Try.isAgg54
  z70 := Try.sizeOf54
  v70 := Try.zeroValue54
  t72 := Try.underlying56
  a72 := Try.isAgg56
  z72 := Try.sizeOf56
  v72 := Try.zeroValue56 }
open Go.RowKit in
theorem Try.Builder_Len (B b : Nat) (bs : List Value) (w : World) (h : Lib.IsBuilder 56 5 B b bs w) :
    Calls Try.prog 40 #[.pointer (some ⟨b, 0, none⟩)] w fun e w' => e = .returned (.int .i64 bs.length) ∧ w' = w := Any.Builder_Len Try.lays170 B b bs w h
def Try.lays169_ren : Go.Shelf.Ren := ⟨fun | 169 => 42 | n => n, fun | 70 => 54 | 9 => 9 | 0 => 0 | 72 => 56 | 37 => 33 | 127 => 65 | 3 => 3 | 5 => 5 | n => n, fun | n => n⟩
theorem Try.lays169 : Go.Proofs.Lays.n169 Try.prog Try.lays169_ren := {
  mixed := by kernel_rfl
  f169 := Try.func42.trans (congrArg some (by kernel_rfl))
  t0 := Try.underlying0
  a0 := Try.isAgg0
  z0 := Try.sizeOf0
  v0 := Try.zeroValue0
  t3 := Try.underlying3
  a3 := Try.isAgg3
  z3 := Try.sizeOf3
  v3 := Try.zeroValue3
  t9 := Try.underlying9
  a9 := Try.isAgg9
  z9 := Try.sizeOf9
  v9 := Try.zeroValue9
  t37 := Try.underlying33
  a37 := Try.isAgg33
  z37 := Try.sizeOf33
  v37 := Try.zeroValue33
  t70 := Try.underlying54
  a70 := Try.isAgg54
  z70 := Try.sizeOf54
  v70 := Try.zeroValue54
  t72 := Try.underlying56
  a72 := Try.isAgg56
  z72 := Try.sizeOf56
  v72 := Try.zeroValue56
  t127 := Try.underlying65
  a127 := Try.isAgg65
  z127 := Try.sizeOf65
  v127 := Try.zeroValue65 }
theorem Try.Builder_Extra_169 : Builder.Extra Try.prog Try.lays169_ren := {
  sizeBuilder := by kernel_rfl
  liesBuilder := by kernel_rfl
  t5 := Try.underlying5
  a5 := Try.isAgg5
  z5 := Try.sizeOf5
  v5 := Try.zeroValue5
  infoByte := by kernel_rfl
  cellsByte := by kernel_rfl
  sizeByte := by kernel_rfl
  neB5 := by decide }
open Go.RowKit in
theorem Try.Builder_String (B b : Nat) (l : List UInt8) (w : World) (h : Lib.IsBuilder 56 5 B b (Lib.byteCells l) w) (h0 : l ≠ []) :
    Calls Try.prog 42 #[.pointer (some ⟨b, 0, none⟩)] w fun e w' => e = .returned (.string ⟨l.toArray⟩) ∧ Below B w w' := Any.Builder_String Try.lays169 Try.Builder_Extra_169 B b l w h h0
open Go.RowKit in
theorem Try.Builder_String_empty (B b : Nat) (w : World) (h : Lib.IsBuilder 56 5 B b [] w) (hBw : B ≤ w.heap.size) :
    Calls Try.prog 42 #[.pointer (some ⟨b, 0, none⟩)] w fun e w' => e = .returned (.string ⟨#[]⟩) ∧ Below B w w' := Any.Builder_String_empty Try.lays169 Try.Builder_Extra_169 B b w h hBw
open Go.RowKit in
theorem Try.Builder_String_any (B b : Nat) (l : List UInt8) (w : World) (h : Lib.IsBuilder 56 5 B b (Lib.byteCells l) w) (hBw : B ≤ w.heap.size) :
    Calls Try.prog 42 #[.pointer (some ⟨b, 0, none⟩)] w fun e w' => e = .returned (.string ⟨l.toArray⟩) ∧ Below B w w' := Any.Builder_String_any Try.lays169 Try.Builder_Extra_169 B b l w h hBw
def Try.lays165_ren : Go.Shelf.Ren := ⟨fun | 165 => 38 | 240 => 44 | 241 => 45 | 276 => 47 | 277 => 48 | n => n, fun | 70 => 54 | 3 => 3 | 0 => 0 | 4 => 4 | 9 => 9 | 20 => 20 | 72 => 56 | 37 => 33 | 164 => 66 | 5 => 5 | n => n, fun | n => n⟩
theorem Try.lays165 : Go.Proofs.Lays.n165 Try.prog Try.lays165_ren := {
  mixed := by kernel_rfl
  f165 := Try.func38.trans (congrArg some (by kernel_rfl))
  f240 := Try.func44.trans (congrArg some (by kernel_rfl))
  f241 := Try.func45.trans (congrArg some (by kernel_rfl))
  f276 := Try.func47.trans (congrArg some (by kernel_rfl))
  f277 := Try.func48.trans (congrArg some (by kernel_rfl))
  t0 := Try.underlying0
  a0 := Try.isAgg0
  z0 := Try.sizeOf0
  v0 := Try.zeroValue0
  t3 := Try.underlying3
  a3 := Try.isAgg3
  z3 := Try.sizeOf3
  v3 := Try.zeroValue3
  t4 := Try.underlying4
  a4 := Try.isAgg4
  z4 := Try.sizeOf4
  v4 := Try.zeroValue4
  t9 := Try.underlying9
  a9 := Try.isAgg9
  z9 := Try.sizeOf9
  v9 := Try.zeroValue9
  t20 := Try.underlying20
  a20 := Try.isAgg20
  z20 := Try.sizeOf20
  v20 := Try.zeroValue20
  t37 := Try.underlying33
  a37 := Try.isAgg33
  z37 := Try.sizeOf33
  v37 := Try.zeroValue33
  t70 := Try.underlying54
  a70 := Try.isAgg54
  z70 := Try.sizeOf54
  v70 := Try.zeroValue54
  t72 := Try.underlying56
  a72 := Try.isAgg56
  z72 := Try.sizeOf56
  v72 := Try.zeroValue56
  t164 := Try.underlying66
  a164 := Try.isAgg66
  z164 := Try.sizeOf66
  v164 := Try.zeroValue66 }
theorem Try.Builder_Extra_165 : Builder.Extra Try.prog Try.lays165_ren := {
  sizeBuilder := by kernel_rfl
  liesBuilder := by kernel_rfl
  t5 := Try.underlying5
  a5 := Try.isAgg5
  z5 := Try.sizeOf5
  v5 := Try.zeroValue5
  infoByte := by kernel_rfl
  cellsByte := by kernel_rfl
  sizeByte := by kernel_rfl
  neB5 := by decide }
open Go.RowKit in
theorem Try.Builder_Grow_fresh (B b n : Nat) (w : World) (hB : B ≤ b) (hbk : w.heap[b]? = some (.cells #[.pointer none, .slice none 0 0] 56 (0, 0))) (hBw : B ≤ w.heap.size) (hn : n ≤ 281474976710656) :
    Calls Try.prog 38 #[.pointer (some ⟨b, 0, none⟩), .int .i64 n] w fun e w' => e = .returned (.tuple #[]) ∧ (Lib.BuilderAt 56 5 B b (.pointer (some ⟨b, 0, none⟩)) [] w' ∧ Below B w w') := Any.Builder_Grow_fresh Try.lays165 Try.Builder_Extra_165 B b n w hB hbk hBw hn
def Try.lays166_ren : Go.Shelf.Ren := ⟨fun | 166 => 39 | 240 => 44 | 276 => 47 | n => n, fun | 70 => 54 | 3 => 3 | 0 => 0 | 4 => 4 | 9 => 9 | 20 => 20 | 72 => 56 | 37 => 33 | 164 => 66 | 5 => 5 | 75 => 59 | 80 => 63 | n => n, fun | n => n⟩
theorem Try.lays166 : Go.Proofs.Lays.n166 Try.prog Try.lays166_ren := {
  mixed := by kernel_rfl
  f166 := Try.func39.trans (congrArg some (by kernel_rfl))
  f240 := Try.func44.trans (congrArg some (by kernel_rfl))
  f276 := Try.func47.trans (congrArg some (by kernel_rfl))
  t0 := Try.underlying0
  a0 := Try.isAgg0
  z0 := Try.sizeOf0
  v0 := Try.zeroValue0
  t3 := Try.underlying3
  a3 := Try.isAgg3
  z3 := Try.sizeOf3
  v3 := Try.zeroValue3
  t4 := Try.underlying4
  a4 := Try.isAgg4
  z4 := Try.sizeOf4
  v4 := Try.zeroValue4
  t9 := Try.underlying9
  a9 := Try.isAgg9
  z9 := Try.sizeOf9
  v9 := Try.zeroValue9
  t20 := Try.underlying20
  a20 := Try.isAgg20
  z20 := Try.sizeOf20
  v20 := Try.zeroValue20
  t37 := Try.underlying33
  a37 := Try.isAgg33
  z37 := Try.sizeOf33
  v37 := Try.zeroValue33
  t70 := Try.underlying54
  a70 := Try.isAgg54
  z70 := Try.sizeOf54
  v70 := Try.zeroValue54
  t72 := Try.underlying56
  a72 := Try.isAgg56
  z72 := Try.sizeOf56
  v72 := Try.zeroValue56
  t75 := Try.underlying59
  a75 := Try.isAgg59
  z75 := Try.sizeOf59
  v75 := Try.zeroValue59
  t164 := Try.underlying66
  a164 := Try.isAgg66
  z164 := Try.sizeOf66
  v164 := Try.zeroValue66 }
theorem Try.Builder_Extra_166 : Builder.Extra Try.prog Try.lays166_ren := {
  sizeBuilder := by kernel_rfl
  liesBuilder := by kernel_rfl
  t5 := Try.underlying5
  a5 := Try.isAgg5
  z5 := Try.sizeOf5
  v5 := Try.zeroValue5
  infoByte := by kernel_rfl
  cellsByte := by kernel_rfl
  sizeByte := by kernel_rfl
  neB5 := by decide }
open Go.RowKit in
theorem Try.Builder_WriteString (B b : Nat) (bs : List Value) (s : ByteArray) (w : World) (h : Lib.IsBuilder 56 5 B b bs w) (hlen : bs.length + s.size ≤ 140737488355328) (hBw : B ≤ w.heap.size) :
    Calls Try.prog 39 #[.pointer (some ⟨b, 0, none⟩), .string s] w fun e w' => e = .returned (.tuple #[.int .i64 s.size, .nilIface]) ∧ (Lib.BuilderAt 56 5 B b (.pointer (some ⟨b, 0, none⟩)) (bs ++ Lib.strCells s) w' ∧ Below B w w') := Any.Builder_WriteString Try.lays166 Try.Builder_Extra_166 B b bs s w h hlen hBw
end Go.Proofs
