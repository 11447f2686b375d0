/-
  THE SHELF's CONTRACTS OF (*strings.Builder) AT THIS DUMP, laid by hand in the make of the kit's laying tool (the tool itself finds no number for a type that no body of the closure names; every number is written out here). Each is one application of a theorem of the kit's library.
-/
import Derived.Shelf.Strings.Builder1
import Derived.Shelf.Strings.Builder2
import Derived.Test.Qxb6601275aProg
namespace Go.Proofs.Qxb6601275a.Build
open Go.Shelf Go.Proofs Go.RowKit

/-- The numbers: the shelf's, this dump's. -/
def ren : Go.Shelf.Ren := ⟨fun | 240 => 38 | 276 => 41 | 167 => 35 | 166 => 32 | 165 => 31 | 241 => 39 | 277 => 42 | 170 => 30 | 169 => 33 | n => n, fun | 37 => 39 | 70 => 48 | 72 => 50 | 75 => 55 | 80 => 58 | 164 => 74 | 127 => 73 | n => n, fun | n => n⟩
theorem lays240 : Go.Proofs.Lays.n240 Try.prog ren := {
  mixed := by kernel_rfl
  f240 := Try.func38.trans (congrArg some (by kernel_rfl))
  f276 := Try.func41.trans (congrArg some (by kernel_rfl))
  t0 := Try.underlying0
  a0 := Try.isAgg0
  z0 := Try.sizeOf0
  v0 := Try.zeroValue0
  t4 := Try.underlying4
  a4 := Try.isAgg4
  z4 := Try.sizeOf4
  v4 := Try.zeroValue4
  t9 := Try.underlying9
  a9 := Try.isAgg9
  z9 := Try.sizeOf9
  v9 := Try.zeroValue9
  t20 := Try.underlying20
  a20 := Try.isAgg20
  z20 := Try.sizeOf20
  v20 := Try.zeroValue20
  t70 := Try.underlying48
  a70 := Try.isAgg48
  z70 := Try.sizeOf48
  v70 := Try.zeroValue48
  t72 := Try.underlying50
  a72 := Try.isAgg50
  z72 := Try.sizeOf50
  v72 := Try.zeroValue50
  t164 := Try.underlying74
  a164 := Try.isAgg74
  z164 := Try.sizeOf74
  v164 := Try.zeroValue74 }
theorem lays167 : Go.Proofs.Lays.n167 Try.prog ren := {
  mixed := by kernel_rfl
  f167 := Try.func35.trans (congrArg some (by kernel_rfl))
  f240 := Try.func38.trans (congrArg some (by kernel_rfl))
  f276 := Try.func41.trans (congrArg some (by kernel_rfl))
  t0 := Try.underlying0
  a0 := Try.isAgg0
  z0 := Try.sizeOf0
  v0 := Try.zeroValue0
  t4 := Try.underlying4
  a4 := Try.isAgg4
  z4 := Try.sizeOf4
  v4 := Try.zeroValue4
  t5 := Try.underlying5
  a5 := Try.isAgg5
  z5 := Try.sizeOf5
  v5 := Try.zeroValue5
  t9 := Try.underlying9
  a9 := Try.isAgg9
  z9 := Try.sizeOf9
  v9 := Try.zeroValue9
  t20 := Try.underlying20
  a20 := Try.isAgg20
  z20 := Try.sizeOf20
  v20 := Try.zeroValue20
  t37 := Try.underlying39
  a37 := Try.isAgg39
  z37 := Try.sizeOf39
  v37 := Try.zeroValue39
  t70 := Try.underlying48
  a70 := Try.isAgg48
  z70 := Try.sizeOf48
  v70 := Try.zeroValue48
  t72 := Try.underlying50
  a72 := Try.isAgg50
  z72 := Try.sizeOf50
  v72 := Try.zeroValue50
  t75 := Try.underlying55
  a75 := Try.isAgg55
  z75 := Try.sizeOf55
  v75 := Try.zeroValue55
  t164 := Try.underlying74
  a164 := Try.isAgg74
  z164 := Try.sizeOf74
  v164 := Try.zeroValue74 }
theorem lays166 : Go.Proofs.Lays.n166 Try.prog ren := {
  mixed := by kernel_rfl
  f166 := Try.func32.trans (congrArg some (by kernel_rfl))
  f240 := Try.func38.trans (congrArg some (by kernel_rfl))
  f276 := Try.func41.trans (congrArg some (by kernel_rfl))
  t0 := Try.underlying0
  a0 := Try.isAgg0
  z0 := Try.sizeOf0
  v0 := Try.zeroValue0
  t3 := Try.underlying3
  a3 := Try.isAgg3
  z3 := Try.sizeOf3
  v3 := Try.zeroValue3
  t4 := Try.underlying4
  a4 := Try.isAgg4
  z4 := Try.sizeOf4
  v4 := Try.zeroValue4
  t9 := Try.underlying9
  a9 := Try.isAgg9
  z9 := Try.sizeOf9
  v9 := Try.zeroValue9
  t20 := Try.underlying20
  a20 := Try.isAgg20
  z20 := Try.sizeOf20
  v20 := Try.zeroValue20
  t37 := Try.underlying39
  a37 := Try.isAgg39
  z37 := Try.sizeOf39
  v37 := Try.zeroValue39
  t70 := Try.underlying48
  a70 := Try.isAgg48
  z70 := Try.sizeOf48
  v70 := Try.zeroValue48
  t72 := Try.underlying50
  a72 := Try.isAgg50
  z72 := Try.sizeOf50
  v72 := Try.zeroValue50
  t75 := Try.underlying55
  a75 := Try.isAgg55
  z75 := Try.sizeOf55
  v75 := Try.zeroValue55
  t164 := Try.underlying74
  a164 := Try.isAgg74
  z164 := Try.sizeOf74
  v164 := Try.zeroValue74 }
theorem lays165 : Go.Proofs.Lays.n165 Try.prog ren := {
  mixed := by kernel_rfl
  f165 := Try.func31.trans (congrArg some (by kernel_rfl))
  f240 := Try.func38.trans (congrArg some (by kernel_rfl))
  f241 := Try.func39.trans (congrArg some (by kernel_rfl))
  f276 := Try.func41.trans (congrArg some (by kernel_rfl))
  f277 := Try.func42.trans (congrArg some (by kernel_rfl))
  t0 := Try.underlying0
  a0 := Try.isAgg0
  z0 := Try.sizeOf0
  v0 := Try.zeroValue0
  t3 := Try.underlying3
  a3 := Try.isAgg3
  z3 := Try.sizeOf3
  v3 := Try.zeroValue3
  t4 := Try.underlying4
  a4 := Try.isAgg4
  z4 := Try.sizeOf4
  v4 := Try.zeroValue4
  t9 := Try.underlying9
  a9 := Try.isAgg9
  z9 := Try.sizeOf9
  v9 := Try.zeroValue9
  t20 := Try.underlying20
  a20 := Try.isAgg20
  z20 := Try.sizeOf20
  v20 := Try.zeroValue20
  t37 := Try.underlying39
  a37 := Try.isAgg39
  z37 := Try.sizeOf39
  v37 := Try.zeroValue39
  t70 := Try.underlying48
  a70 := Try.isAgg48
  z70 := Try.sizeOf48
  v70 := Try.zeroValue48
  t72 := Try.underlying50
  a72 := Try.isAgg50
  z72 := Try.sizeOf50
  v72 := Try.zeroValue50
  t164 := Try.underlying74
  a164 := Try.isAgg74
  z164 := Try.sizeOf74
  v164 := Try.zeroValue74 }
theorem lays170 : Go.Proofs.Lays.n170 Try.prog ren := {
  mixed := by kernel_rfl
  f170 := Try.func30.trans (congrArg some (by kernel_rfl))
  t0 := Try.underlying0
  a0 := Try.isAgg0
  z0 := Try.sizeOf0
  v0 := Try.zeroValue0
  t3 := Try.underlying3
  a3 := Try.isAgg3
  z3 := Try.sizeOf3
  v3 := Try.zeroValue3
  t37 := Try.underlying39
  a37 := Try.isAgg39
  z37 := Try.sizeOf39
  v37 := Try.zeroValue39
  t70 := Try.underlying48
  a70 := Try.isAgg48
  z70 := Try.sizeOf48
  v70 := Try.zeroValue48
  t72 := Try.underlying50
  a72 := Try.isAgg50
  z72 := Try.sizeOf50
  v72 := Try.zeroValue50 }
theorem lays169 : Go.Proofs.Lays.n169 Try.prog ren := {
  mixed := by kernel_rfl
  f169 := Try.func33.trans (congrArg some (by kernel_rfl))
  t0 := Try.underlying0
  a0 := Try.isAgg0
  z0 := Try.sizeOf0
  v0 := Try.zeroValue0
  t3 := Try.underlying3
  a3 := Try.isAgg3
  z3 := Try.sizeOf3
  v3 := Try.zeroValue3
  t9 := Try.underlying9
  a9 := Try.isAgg9
  z9 := Try.sizeOf9
  v9 := Try.zeroValue9
  t37 := Try.underlying39
  a37 := Try.isAgg39
  z37 := Try.sizeOf39
  v37 := Try.zeroValue39
  t70 := Try.underlying48
  a70 := Try.isAgg48
  z70 := Try.sizeOf48
  v70 := Try.zeroValue48
  t72 := Try.underlying50
  a72 := Try.isAgg50
  z72 := Try.sizeOf50
  v72 := Try.zeroValue50
  t127 := Try.underlying73
  a127 := Try.isAgg73
  z127 := Try.sizeOf73
  v127 := Try.zeroValue73 }
theorem extra : Builder.Extra Try.prog ren := {
  sizeBuilder := by kernel_rfl
  liesBuilder := by kernel_rfl
  t5 := Try.underlying5
  a5 := Try.isAgg5
  z5 := Try.sizeOf5
  v5 := Try.zeroValue5
  infoByte := by kernel_rfl
  cellsByte := by kernel_rfl
  sizeByte := by kernel_rfl
  neB5 := by decide }

theorem writeByte_any (B b : Nat) (bs : List Value) (c : Int) (w : World) (h : Lib.IsBuilder 50 5 B b bs w) (hlen : bs.length + 1 ≤ 140737488355328) (hBw : B ≤ w.heap.size) :
    Calls Try.prog 35 #[.pointer (some ⟨b, 0, none⟩), .int .u8 c] w fun e w' => e = .returned .nilIface ∧ (Lib.BuilderAt 50 5 B b (.pointer (some ⟨b, 0, none⟩)) (bs ++ [.int .u8 c]) w' ∧ Below B w w') := Any.Builder_WriteByte lays167 extra B b bs c w h hlen hBw

theorem writeString_any (B b : Nat) (bs : List Value) (s : ByteArray) (w : World) (h : Lib.IsBuilder 50 5 B b bs w) (hlen : bs.length + s.size ≤ 140737488355328) (hBw : B ≤ w.heap.size) :
    Calls Try.prog 32 #[.pointer (some ⟨b, 0, none⟩), .string s] w fun e w' => e = .returned (.tuple #[.int .i64 s.size, .nilIface]) ∧ (Lib.BuilderAt 50 5 B b (.pointer (some ⟨b, 0, none⟩)) (bs ++ Lib.strCells s) w' ∧ Below B w w') := Any.Builder_WriteString lays166 extra B b bs s w h hlen hBw

theorem len_any (B b : Nat) (bs : List Value) (w : World) (h : Lib.IsBuilder 50 5 B b bs w) :
    Calls Try.prog 30 #[.pointer (some ⟨b, 0, none⟩)] w fun e w' => e = .returned (.int .i64 bs.length) ∧ w' = w := Any.Builder_Len lays170 B b bs w h

theorem string_any (B b : Nat) (l : List UInt8) (w : World) (h : Lib.IsBuilder 50 5 B b (Lib.byteCells l) w) (hBw : B ≤ w.heap.size) :
    Calls Try.prog 33 #[.pointer (some ⟨b, 0, none⟩)] w fun e w' => e = .returned (.string ⟨l.toArray⟩) ∧ Below B w w' := Any.Builder_String_any lays169 extra B b l w h hBw

theorem grow_any (B b n : Nat) (w : World) (hB : B ≤ b) (hbk : w.heap[b]? = some (.cells #[.pointer none, .slice none 0 0] 50 (0, 0))) (hBw : B ≤ w.heap.size) (hn : n ≤ 281474976710656) :
    Calls Try.prog 31 #[.pointer (some ⟨b, 0, none⟩), .int .i64 n] w fun e w' => e = .returned (.tuple #[]) ∧ (Lib.BuilderAt 50 5 B b (.pointer (some ⟨b, 0, none⟩)) [] w' ∧ Below B w w') := Any.Builder_Grow_fresh lays165 extra B b n w hB hbk hBw hn
end Go.Proofs.Qxb6601275a.Build
