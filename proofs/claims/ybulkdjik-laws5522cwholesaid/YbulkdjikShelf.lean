/- The shelf's contracts for strings.Builder at this dump, in plain words (written by the kit's lay-shelf and lay-plain tools). -/
import Derived.Shelf.Strings.Builder1
import Derived.Shelf.Strings.Builder2
import Derived.Test.YbulkdjikProg
namespace Go.Proofs
open Go.Shelf
def Yba.lays169_ren : Go.Shelf.Ren := ⟨fun | 169 => 8 | n => n, fun | 70 => 28 | 9 => 9 | 0 => 0 | 72 => 30 | 37 => 22 | 127 => 37 | 3 => 3 | 5 => 5 | n => n, fun | n => n⟩
theorem Yba.lays169 : Go.Proofs.Lays.n169 Yba.prog Yba.lays169_ren := {
  mixed := by kernel_rfl
  f169 := Yba.func8.trans (congrArg some (by kernel_rfl))
  t0 := Yba.underlying0
  a0 := Yba.isAgg0
  z0 := Yba.sizeOf0
  v0 := Yba.zeroValue0
  t3 := Yba.underlying3
  a3 := Yba.isAgg3
  z3 := Yba.sizeOf3
  v3 := Yba.zeroValue3
  t9 := Yba.underlying9
  a9 := Yba.isAgg9
  z9 := Yba.sizeOf9
  v9 := Yba.zeroValue9
  t37 := Yba.underlying22
  a37 := Yba.isAgg22
  z37 := Yba.sizeOf22
  v37 := Yba.zeroValue22
  t70 := Yba.underlying28
  a70 := Yba.isAgg28
  z70 := Yba.sizeOf28
  v70 := Yba.zeroValue28
  t72 := Yba.underlying30
  a72 := Yba.isAgg30
  z72 := Yba.sizeOf30
  v72 := Yba.zeroValue30
  t127 := Yba.underlying37
  a127 := Yba.isAgg37
  z127 := Yba.sizeOf37
  v127 := Yba.zeroValue37 }
theorem Yba.Builder_Extra_169 : Builder.Extra Yba.prog Yba.lays169_ren := {
  sizeBuilder := by kernel_rfl
  liesBuilder := by kernel_rfl
  t5 := Yba.underlying5
  a5 := Yba.isAgg5
  z5 := Yba.sizeOf5
  v5 := Yba.zeroValue5
  infoByte := by kernel_rfl
  cellsByte := by kernel_rfl
  sizeByte := by kernel_rfl
  neB5 := by decide }
open Go.RowKit in
theorem Yba.Builder_String (B b : Nat) (l : List UInt8) (w : World) (h : Lib.IsBuilder 30 5 B b (Lib.byteCells l) w) (h0 : l ≠ []) :
    Calls Yba.prog 8 #[.pointer (some ⟨b, 0, none⟩)] w fun e w' => e = .returned (.string ⟨l.toArray⟩) ∧ Below B w w' := Any.Builder_String Yba.lays169 Yba.Builder_Extra_169 B b l w h h0
open Go.RowKit in
theorem Yba.Builder_String_empty (B b : Nat) (w : World) (h : Lib.IsBuilder 30 5 B b [] w) (hBw : B ≤ w.heap.size) :
    Calls Yba.prog 8 #[.pointer (some ⟨b, 0, none⟩)] w fun e w' => e = .returned (.string ⟨#[]⟩) ∧ Below B w w' := Any.Builder_String_empty Yba.lays169 Yba.Builder_Extra_169 B b w h hBw
open Go.RowKit in
theorem Yba.Builder_String_any (B b : Nat) (l : List UInt8) (w : World) (h : Lib.IsBuilder 30 5 B b (Lib.byteCells l) w) (hBw : B ≤ w.heap.size) :
    Calls Yba.prog 8 #[.pointer (some ⟨b, 0, none⟩)] w fun e w' => e = .returned (.string ⟨l.toArray⟩) ∧ Below B w w' := Any.Builder_String_any Yba.lays169 Yba.Builder_Extra_169 B b l w h hBw
def Yba.lays241_ren : Go.Shelf.Ren := ⟨fun | 241 => 10 | 277 => 12 | n => n, fun | 70 => 28 | 3 => 3 | 0 => 0 | 72 => 30 | 37 => 22 | 5 => 5 | n => n, fun | n => n⟩
theorem Yba.lays241 : Go.Proofs.Lays.n241 Yba.prog Yba.lays241_ren := {
  mixed := by kernel_rfl
  f241 := Yba.func10.trans (congrArg some (by kernel_rfl))
  f277 := Yba.func12.trans (congrArg some (by kernel_rfl))
  t0 := Yba.underlying0
  a0 := Yba.isAgg0
  z0 := Yba.sizeOf0
  v0 := Yba.zeroValue0
  t3 := Yba.underlying3
  a3 := Yba.isAgg3
  z3 := Yba.sizeOf3
  v3 := Yba.zeroValue3
  t37 := Yba.underlying22
  a37 := Yba.isAgg22
  z37 := Yba.sizeOf22
  v37 := Yba.zeroValue22
  t70 := Yba.underlying28
  a70 := Yba.isAgg28
  z70 := Yba.sizeOf28
  v70 := Yba.zeroValue28
  t72 := Yba.underlying30
  a72 := Yba.isAgg30
  z72 := Yba.sizeOf30
  v72 := Yba.zeroValue30 }
theorem Yba.Builder_Extra_241 : Builder.Extra Yba.prog Yba.lays241_ren := {
  sizeBuilder := by kernel_rfl
  liesBuilder := by kernel_rfl
  t5 := Yba.underlying5
  a5 := Yba.isAgg5
  z5 := Yba.sizeOf5
  v5 := Yba.zeroValue5
  infoByte := by kernel_rfl
  cellsByte := by kernel_rfl
  sizeByte := by kernel_rfl
  neB5 := by decide }
open Go.RowKit in
theorem Yba.Builder_grow_fresh (B b n : Nat) (w : World) (hB : B ≤ b) (hbk : w.heap[b]? = some (.cells #[.pointer (some ⟨b, 0, none⟩), .slice none 0 0] 30 (0, 0))) (hBw : B ≤ w.heap.size) (hn : n ≤ 281474976710656) :
    Calls Yba.prog 10 #[.pointer (some ⟨b, 0, none⟩), .int .i64 n] w fun e w' => e = .returned (.tuple #[]) ∧ (Lib.BuilderAt 30 5 B b (.pointer (some ⟨b, 0, none⟩)) [] w' ∧ Below B w w') := Any.Builder_grow_fresh Yba.lays241 Yba.Builder_Extra_241 B b n w hB hbk hBw hn
def Yba.lays165_ren : Go.Shelf.Ren := ⟨fun | 165 => 6 | 240 => 9 | 241 => 10 | 276 => 11 | 277 => 12 | n => n, fun | 70 => 28 | 3 => 3 | 0 => 0 | 4 => 4 | 9 => 9 | 20 => 20 | 72 => 30 | 37 => 22 | 164 => 38 | 5 => 5 | n => n, fun | n => n⟩
theorem Yba.lays165 : Go.Proofs.Lays.n165 Yba.prog Yba.lays165_ren := {
  mixed := by kernel_rfl
  f165 := Yba.func6.trans (congrArg some (by kernel_rfl))
  f240 := Yba.func9.trans (congrArg some (by kernel_rfl))
  f241 := Yba.func10.trans (congrArg some (by kernel_rfl))
  f276 := Yba.func11.trans (congrArg some (by kernel_rfl))
  f277 := Yba.func12.trans (congrArg some (by kernel_rfl))
  t0 := Yba.underlying0
  a0 := Yba.isAgg0
  z0 := Yba.sizeOf0
  v0 := Yba.zeroValue0
  t3 := Yba.underlying3
  a3 := Yba.isAgg3
  z3 := Yba.sizeOf3
  v3 := Yba.zeroValue3
  t4 := Yba.underlying4
  a4 := Yba.isAgg4
  z4 := Yba.sizeOf4
  v4 := Yba.zeroValue4
  t9 := Yba.underlying9
  a9 := Yba.isAgg9
  z9 := Yba.sizeOf9
  v9 := Yba.zeroValue9
  t20 := Yba.underlying20
  a20 := Yba.isAgg20
  z20 := Yba.sizeOf20
  v20 := Yba.zeroValue20
  t37 := Yba.underlying22
  a37 := Yba.isAgg22
  z37 := Yba.sizeOf22
  v37 := Yba.zeroValue22
  t70 := Yba.underlying28
  a70 := Yba.isAgg28
  z70 := Yba.sizeOf28
  v70 := Yba.zeroValue28
  t72 := Yba.underlying30
  a72 := Yba.isAgg30
  z72 := Yba.sizeOf30
  v72 := Yba.zeroValue30
  t164 := Yba.underlying38
  a164 := Yba.isAgg38
  z164 := Yba.sizeOf38
  v164 := Yba.zeroValue38 }
theorem Yba.Builder_Extra_165 : Builder.Extra Yba.prog Yba.lays165_ren := {
  sizeBuilder := by kernel_rfl
  liesBuilder := by kernel_rfl
  t5 := Yba.underlying5
  a5 := Yba.isAgg5
  z5 := Yba.sizeOf5
  v5 := Yba.zeroValue5
  infoByte := by kernel_rfl
  cellsByte := by kernel_rfl
  sizeByte := by kernel_rfl
  neB5 := by decide }
open Go.RowKit in
theorem Yba.Builder_Grow_fresh (B b n : Nat) (w : World) (hB : B ≤ b) (hbk : w.heap[b]? = some (.cells #[.pointer none, .slice none 0 0] 30 (0, 0))) (hBw : B ≤ w.heap.size) (hn : n ≤ 281474976710656) :
    Calls Yba.prog 6 #[.pointer (some ⟨b, 0, none⟩), .int .i64 n] w fun e w' => e = .returned (.tuple #[]) ∧ (Lib.BuilderAt 30 5 B b (.pointer (some ⟨b, 0, none⟩)) [] w' ∧ Below B w w') := Any.Builder_Grow_fresh Yba.lays165 Yba.Builder_Extra_165 B b n w hB hbk hBw hn
end Go.Proofs
