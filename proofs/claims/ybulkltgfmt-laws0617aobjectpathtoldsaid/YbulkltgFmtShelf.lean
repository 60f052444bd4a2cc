/-
  Seat b0617aF. TWO CONTRACTS OF THE GUIDE's SHELF (strings.Builder's copyCheck and String, proved there once over any program), laid at this dump in plain words: the numbering, and each fact that they ask, by the kernel or by the loaded program's own facts. (String's laying is as the shelf's tool wrote it; copyCheck's is typed by hand after it.)
-/
import Derived.Shelf.Strings.Builder1
import Derived.Test.YbulkltgFmtRows
namespace Go.Proofs.YbulkltgFmt
open Go.Shelf Go.RowKit

def ren240 : Ren := ⟨fun | 240 => 19 | 276 => 20 | n => n, fun | 70 => 40 | 72 => 42 | 164 => 61 | 37 => 23 | n => n, fun | n => n⟩
theorem lays240 : Lays.n240 Ybaf.prog ren240 := {
  mixed := by kernel_rfl
  f240 := Ybaf.func19.trans (congrArg some (by kernel_rfl))
  f276 := Ybaf.func20.trans (congrArg some (by kernel_rfl))
  t0 := Ybaf.underlying0
  a0 := Ybaf.isAgg0
  z0 := Ybaf.sizeOf0
  v0 := Ybaf.zeroValue0
  t4 := Ybaf.underlying4
  a4 := Ybaf.isAgg4
  z4 := Ybaf.sizeOf4
  v4 := Ybaf.zeroValue4
  t9 := Ybaf.underlying9
  a9 := Ybaf.isAgg9
  z9 := Ybaf.sizeOf9
  v9 := Ybaf.zeroValue9
  t20 := Ybaf.underlying20
  a20 := Ybaf.isAgg20
  z20 := Ybaf.sizeOf20
  v20 := Ybaf.zeroValue20
  t70 := Ybaf.underlying40
  a70 := Ybaf.isAgg40
  z70 := Ybaf.sizeOf40
  v70 := Ybaf.zeroValue40
  t72 := Ybaf.underlying42
  a72 := Ybaf.isAgg42
  z72 := Ybaf.sizeOf42
  v72 := Ybaf.zeroValue42
  t164 := Ybaf.underlying61
  a164 := Ybaf.isAgg61
  z164 := Ybaf.sizeOf61
  v164 := Ybaf.zeroValue61 }
theorem x72 : Builder.X72 Ybaf.prog ren240 := {
  sizeBuilder := by kernel_rfl
  liesBuilder := by kernel_rfl }

/-- copyCheck: behind it the builder is used: its first field holds its own address; its bytes are as they were. -/
theorem Bld.copyCheck (B b : Nat) (bs : List Value) (w : World) (h : Lib.IsBuilder 42 5 B b bs w) :
    Calls Ybaf.prog 19 #[.pointer (some ⟨b, 0, none⟩)] w fun e w' => e = .returned (.tuple #[]) ∧ (Lib.BuilderAt 42 5 B b (.pointer (some ⟨b, 0, none⟩)) bs w' ∧ Below B w w') :=
  Any.Builder_copyCheck lays240 x72 B b bs w h

def ren169 : Ren := ⟨fun | 169 => 11 | n => n, fun | 70 => 40 | 72 => 42 | 37 => 23 | 127 => 55 | n => n, fun | n => n⟩
theorem lays169 : Lays.n169 Ybaf.prog ren169 := {
  mixed := by kernel_rfl
  f169 := Ybaf.func11.trans (congrArg some (by kernel_rfl))
  t0 := Ybaf.underlying0
  a0 := Ybaf.isAgg0
  z0 := Ybaf.sizeOf0
  v0 := Ybaf.zeroValue0
  t3 := Ybaf.underlying3
  a3 := Ybaf.isAgg3
  z3 := Ybaf.sizeOf3
  v3 := Ybaf.zeroValue3
  t9 := Ybaf.underlying9
  a9 := Ybaf.isAgg9
  z9 := Ybaf.sizeOf9
  v9 := Ybaf.zeroValue9
  t37 := Ybaf.underlying23
  a37 := Ybaf.isAgg23
  z37 := Ybaf.sizeOf23
  v37 := Ybaf.zeroValue23
  t70 := Ybaf.underlying40
  a70 := Ybaf.isAgg40
  z70 := Ybaf.sizeOf40
  v70 := Ybaf.zeroValue40
  t72 := Ybaf.underlying42
  a72 := Ybaf.isAgg42
  z72 := Ybaf.sizeOf42
  v72 := Ybaf.zeroValue42
  t127 := Ybaf.underlying55
  a127 := Ybaf.isAgg55
  z127 := Ybaf.sizeOf55
  v127 := Ybaf.zeroValue55 }
theorem extra169 : Builder.Extra Ybaf.prog ren169 := {
  sizeBuilder := by kernel_rfl
  liesBuilder := by kernel_rfl
  t5 := Ybaf.underlying5
  a5 := Ybaf.isAgg5
  z5 := Ybaf.sizeOf5
  v5 := Ybaf.zeroValue5
  infoByte := by kernel_rfl
  cellsByte := by kernel_rfl
  sizeByte := by kernel_rfl
  neB5 := by decide }

/-- String, whatever the builder holds. -/
theorem Bld.string (B b : Nat) (l : List UInt8) (w : World) (h : Lib.IsBuilder 42 5 B b (Lib.byteCells l) w) (hBw : B ≤ w.heap.size) :
    Calls Ybaf.prog 11 #[.pointer (some ⟨b, 0, none⟩)] w fun e w' => e = .returned (.string ⟨l.toArray⟩) ∧ Below B w w' :=
  Any.Builder_String_any lays169 extra169 B b l w h hBw

end Go.Proofs.YbulkltgFmt
