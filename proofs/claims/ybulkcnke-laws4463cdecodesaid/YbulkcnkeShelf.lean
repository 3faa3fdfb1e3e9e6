/-
  The library contracts at this dump (laid by the kit tool, in plain words).
-/
import Derived.Shelf.Strings.Builder1
import Derived.Shelf.Strings.BuilderF
import Derived.Shelf.Strings.BuilderK
import Derived.Shelf.Strings.BuilderCap
import Derived.Test.YbulkcnkeProg
namespace Go.Proofs
open Go.Shelf
def Yba.lays169_ren : Go.Shelf.Ren := ⟨fun | 169 => 21 | n => n, fun | 70 => 69 | 9 => 9 | 0 => 0 | 72 => 71 | 37 => 31 | 127 => 82 | 3 => 3 | 5 => 5 | n => n, fun | n => n⟩
theorem Yba.lays169 : Go.Proofs.Lays.n169 Yba.prog Yba.lays169_ren := {
  mixed := by kernel_rfl
  f169 := Yba.func21.trans (congrArg some (by kernel_rfl))
  t0 := Yba.underlying0
  a0 := Yba.isAgg0
  z0 := Yba.sizeOf0
  v0 := Yba.zeroValue0
  t3 := Yba.underlying3
  a3 := Yba.isAgg3
  z3 := Yba.sizeOf3
  v3 := Yba.zeroValue3
  t9 := Yba.underlying9
  a9 := Yba.isAgg9
  z9 := Yba.sizeOf9
  v9 := Yba.zeroValue9
  t37 := Yba.underlying31
  a37 := Yba.isAgg31
  z37 := Yba.sizeOf31
  v37 := Yba.zeroValue31
  t70 := Yba.underlying69
  a70 := Yba.isAgg69
  z70 := Yba.sizeOf69
  v70 := Yba.zeroValue69
  t72 := Yba.underlying71
  a72 := Yba.isAgg71
  z72 := Yba.sizeOf71
  v72 := Yba.zeroValue71
  t127 := Yba.underlying82
  a127 := Yba.isAgg82
  z127 := Yba.sizeOf82
  v127 := Yba.zeroValue82 }
theorem Yba.Builder_Extra_169 : Builder.Extra Yba.prog Yba.lays169_ren := {
  sizeBuilder := by kernel_rfl
  liesBuilder := by kernel_rfl
  t5 := Yba.underlying5
  a5 := Yba.isAgg5
  z5 := Yba.sizeOf5
  v5 := Yba.zeroValue5
  infoByte := by kernel_rfl
  cellsByte := by kernel_rfl
  sizeByte := by kernel_rfl
  neB5 := by decide }
open Go.RowKit in
theorem Yba.Builder_String (B b : Nat) (l : List UInt8) (w : World) (h : Lib.IsBuilder 71 5 B b (Lib.byteCells l) w) (h0 : l ≠ []) :
    Calls Yba.prog 21 #[.pointer (some ⟨b, 0, none⟩)] w fun e w' => e = .returned (.string ⟨l.toArray⟩) ∧ Below B w w' := Any.Builder_String Yba.lays169 Yba.Builder_Extra_169 B b l w h h0
open Go.RowKit in
theorem Yba.Builder_String_empty (B b : Nat) (w : World) (h : Lib.IsBuilder 71 5 B b [] w) (hBw : B ≤ w.heap.size) :
    Calls Yba.prog 21 #[.pointer (some ⟨b, 0, none⟩)] w fun e w' => e = .returned (.string ⟨#[]⟩) ∧ Below B w w' := Any.Builder_String_empty Yba.lays169 Yba.Builder_Extra_169 B b w h hBw
open Go.RowKit in
theorem Yba.Builder_String_any (B b : Nat) (l : List UInt8) (w : World) (h : Lib.IsBuilder 71 5 B b (Lib.byteCells l) w) (hBw : B ≤ w.heap.size) :
    Calls Yba.prog 21 #[.pointer (some ⟨b, 0, none⟩)] w fun e w' => e = .returned (.string ⟨l.toArray⟩) ∧ Below B w w' := Any.Builder_String_any Yba.lays169 Yba.Builder_Extra_169 B b l w h hBw
open Go.RowKit in
theorem Yba.Builder_String_f (B b : Nat) (l : List UInt8) (w : World) (h : Lib.IsBuilderF 71 5 B b (Lib.byteCells l) w) (h0 : l ≠ []) :
    Calls Yba.prog 21 #[.pointer (some ⟨b, 0, none⟩)] w fun e w' => e = .returned (.string ⟨l.toArray⟩) ∧ (Lib.IsBuilderF 71 5 B b (Lib.byteCells l) w' ∧ Below B w w') := Any.Builder_String_f Yba.lays169 Yba.Builder_Extra_169 B b l w h h0
open Go.RowKit in
theorem Yba.Builder_String_empty_f (B b : Nat) (w : World) (h : Lib.IsBuilderF 71 5 B b [] w) (hBw : B ≤ w.heap.size) :
    Calls Yba.prog 21 #[.pointer (some ⟨b, 0, none⟩)] w fun e w' => e = .returned (.string ⟨#[]⟩) ∧ (Lib.IsBuilderF 71 5 B b [] w' ∧ Below B w w') := Any.Builder_String_empty_f Yba.lays169 Yba.Builder_Extra_169 B b w h hBw
open Go.RowKit in
theorem Yba.Builder_String_any_f (B b : Nat) (l : List UInt8) (w : World) (h : Lib.IsBuilderF 71 5 B b (Lib.byteCells l) w) (hBw : B ≤ w.heap.size) :
    Calls Yba.prog 21 #[.pointer (some ⟨b, 0, none⟩)] w fun e w' => e = .returned (.string ⟨l.toArray⟩) ∧ (Lib.IsBuilderF 71 5 B b (Lib.byteCells l) w' ∧ Below B w w') := Any.Builder_String_any_f Yba.lays169 Yba.Builder_Extra_169 B b l w h hBw
open Go.RowKit in
theorem Yba.Builder_String_k (B b : Nat) (l : List UInt8) (w : World) (h : Lib.IsBuilderF 71 5 B b (Lib.byteCells l) w) (h0 : l ≠ []) :
    Calls Yba.prog 21 #[.pointer (some ⟨b, 0, none⟩)] w fun e w' => e = .returned (.string ⟨l.toArray⟩) ∧ (Lib.IsBuilderF 71 5 B b (Lib.byteCells l) w' ∧ Below B w w' ∧ Lib.OthersKept 5 (some b) w w') := Any.Builder_String_k Yba.lays169 Yba.Builder_Extra_169 B b l w h h0
open Go.RowKit in
theorem Yba.Builder_String_empty_k (B b : Nat) (w : World) (h : Lib.IsBuilderF 71 5 B b [] w) (hBw : B ≤ w.heap.size) :
    Calls Yba.prog 21 #[.pointer (some ⟨b, 0, none⟩)] w fun e w' => e = .returned (.string ⟨#[]⟩) ∧ (Lib.IsBuilderF 71 5 B b [] w' ∧ Below B w w' ∧ Lib.OthersKept 5 (some b) w w') := Any.Builder_String_empty_k Yba.lays169 Yba.Builder_Extra_169 B b w h hBw
open Go.RowKit in
theorem Yba.Builder_String_any_k (B b : Nat) (l : List UInt8) (w : World) (h : Lib.IsBuilderF 71 5 B b (Lib.byteCells l) w) (hBw : B ≤ w.heap.size) :
    Calls Yba.prog 21 #[.pointer (some ⟨b, 0, none⟩)] w fun e w' => e = .returned (.string ⟨l.toArray⟩) ∧ (Lib.IsBuilderF 71 5 B b (Lib.byteCells l) w' ∧ Below B w w' ∧ Lib.OthersKept 5 (some b) w w') := Any.Builder_String_any_k Yba.lays169 Yba.Builder_Extra_169 B b l w h hBw
def Yba.lays167_ren : Go.Shelf.Ren := ⟨fun | 167 => 20 | 240 => 27 | 276 => 30 | n => n, fun | 70 => 69 | 9 => 9 | 0 => 0 | 4 => 4 | 72 => 71 | 37 => 31 | 5 => 5 | 75 => 73 | 80 => 76 | 20 => 20 | 164 => 87 | n => n, fun | n => n⟩
theorem Yba.lays167 : Go.Proofs.Lays.n167 Yba.prog Yba.lays167_ren := {
  mixed := by kernel_rfl
  f167 := Yba.func20.trans (congrArg some (by kernel_rfl))
  f240 := Yba.func27.trans (congrArg some (by kernel_rfl))
  f276 := Yba.func30.trans (congrArg some (by kernel_rfl))
  t0 := Yba.underlying0
  a0 := Yba.isAgg0
  z0 := Yba.sizeOf0
  v0 := Yba.zeroValue0
  t4 := Yba.underlying4
  a4 := Yba.isAgg4
  z4 := Yba.sizeOf4
  v4 := Yba.zeroValue4
  t5 := Yba.underlying5
  a5 := Yba.isAgg5
  z5 := Yba.sizeOf5
  v5 := Yba.zeroValue5
  t9 := Yba.underlying9
  a9 := Yba.isAgg9
  z9 := Yba.sizeOf9
  v9 := Yba.zeroValue9
  t20 := Yba.underlying20
  a20 := Yba.isAgg20
  z20 := Yba.sizeOf20
  v20 := Yba.zeroValue20
  t37 := Yba.underlying31
  a37 := Yba.isAgg31
  z37 := Yba.sizeOf31
  v37 := Yba.zeroValue31
  t70 := Yba.underlying69
  a70 := Yba.isAgg69
  z70 := Yba.sizeOf69
  v70 := Yba.zeroValue69
  t72 := Yba.underlying71
  a72 := Yba.isAgg71
  z72 := Yba.sizeOf71
  v72 := Yba.zeroValue71
  t75 := Yba.underlying73
  a75 := Yba.isAgg73
  z75 := Yba.sizeOf73
  v75 := Yba.zeroValue73
  t164 := Yba.underlying87
  a164 := Yba.isAgg87
  z164 := Yba.sizeOf87
  v164 := Yba.zeroValue87 }
theorem Yba.Builder_Extra_167 : Builder.Extra Yba.prog Yba.lays167_ren := {
  sizeBuilder := by kernel_rfl
  liesBuilder := by kernel_rfl
  t5 := Yba.underlying5
  a5 := Yba.isAgg5
  z5 := Yba.sizeOf5
  v5 := Yba.zeroValue5
  infoByte := by kernel_rfl
  cellsByte := by kernel_rfl
  sizeByte := by kernel_rfl
  neB5 := by decide }
open Go.RowKit in
theorem Yba.Builder_WriteByte (B b : Nat) (bs : List Value) (c : Int) (w : World) (h : Lib.IsBuilder 71 5 B b bs w) (hlen : bs.length + 1 ≤ 140737488355328) (hBw : B ≤ w.heap.size) :
    Calls Yba.prog 20 #[.pointer (some ⟨b, 0, none⟩), .int .u8 c] w fun e w' => e = .returned .nilIface ∧ (Lib.BuilderAt 71 5 B b (.pointer (some ⟨b, 0, none⟩)) (bs ++ [.int .u8 c]) w' ∧ Below B w w') := Any.Builder_WriteByte Yba.lays167 Yba.Builder_Extra_167 B b bs c w h hlen hBw
end Go.Proofs
