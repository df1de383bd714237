/-
  THE SHELF's CONTRACTS OF strings.Builder AND strings.TrimSuffix AT THIS PROGRAM. One table of numbers for all (the shelf's own command could not lay copyCheck, WriteByte and WriteString here: their bodies name neither string nor the empty interface, the structures ask for both; so the layings are written out, after what the kit's tools lay-shelf and lay-plain write for this program). Each field is a fact of the loaded program or the kernel's comparison of two bodies.
-/
import Derived.Shelf.Strings.Builder1
import Derived.Shelf.Strings.Builder2
import Derived.Shelf.Strings.Prefix
import Derived.Test.Qxb6601016aProg
import Derived.KernelRfl
namespace Go.Proofs
open Go.Shelf
namespace Qxb6601016a
def ren : Go.Shelf.Ren := ⟨fun | 165 => 23 | 240 => 29 | 241 => 30 | 276 => 33 | 277 => 34 | 166 => 25 | 167 => 24 | 169 => 26 | 102 => 22 | 209 => 28 | 207 => 32 | n => n, fun | 70 => 35 | 3 => 3 | 0 => 0 | 4 => 4 | 9 => 9 | 20 => 20 | 72 => 38 | 37 => 36 | 164 => 48 | 5 => 5 | 75 => 41 | 80 => 45 | 127 => 46 | n => n, fun | n => n⟩
theorem lays165 : Go.Proofs.Lays.n165 Try.prog ren := {
  mixed := by kernel_rfl
  f165 := Try.func23.trans (congrArg some (by kernel_rfl))
  f240 := Try.func29.trans (congrArg some (by kernel_rfl))
  f241 := Try.func30.trans (congrArg some (by kernel_rfl))
  f276 := Try.func33.trans (congrArg some (by kernel_rfl))
  f277 := Try.func34.trans (congrArg some (by kernel_rfl))
  t0 := Try.underlying0
  a0 := Try.isAgg0
  z0 := Try.sizeOf0
  v0 := Try.zeroValue0
  t3 := Try.underlying3
  a3 := Try.isAgg3
  z3 := Try.sizeOf3
  v3 := Try.zeroValue3
  t4 := Try.underlying4
  a4 := Try.isAgg4
  z4 := Try.sizeOf4
  v4 := Try.zeroValue4
  t9 := Try.underlying9
  a9 := Try.isAgg9
  z9 := Try.sizeOf9
  v9 := Try.zeroValue9
  t20 := Try.underlying20
  a20 := Try.isAgg20
  z20 := Try.sizeOf20
  v20 := Try.zeroValue20
  t37 := Try.underlying36
  a37 := Try.isAgg36
  z37 := Try.sizeOf36
  v37 := Try.zeroValue36
  t70 := Try.underlying35
  a70 := Try.isAgg35
  z70 := Try.sizeOf35
  v70 := Try.zeroValue35
  t72 := Try.underlying38
  a72 := Try.isAgg38
  z72 := Try.sizeOf38
  v72 := Try.zeroValue38
  t164 := Try.underlying48
  a164 := Try.isAgg48
  z164 := Try.sizeOf48
  v164 := Try.zeroValue48 }
theorem lays166 : Go.Proofs.Lays.n166 Try.prog ren := {
  mixed := by kernel_rfl
  f166 := Try.func25.trans (congrArg some (by kernel_rfl))
  f240 := Try.func29.trans (congrArg some (by kernel_rfl))
  f276 := Try.func33.trans (congrArg some (by kernel_rfl))
  t0 := Try.underlying0
  a0 := Try.isAgg0
  z0 := Try.sizeOf0
  v0 := Try.zeroValue0
  t3 := Try.underlying3
  a3 := Try.isAgg3
  z3 := Try.sizeOf3
  v3 := Try.zeroValue3
  t4 := Try.underlying4
  a4 := Try.isAgg4
  z4 := Try.sizeOf4
  v4 := Try.zeroValue4
  t9 := Try.underlying9
  a9 := Try.isAgg9
  z9 := Try.sizeOf9
  v9 := Try.zeroValue9
  t20 := Try.underlying20
  a20 := Try.isAgg20
  z20 := Try.sizeOf20
  v20 := Try.zeroValue20
  t37 := Try.underlying36
  a37 := Try.isAgg36
  z37 := Try.sizeOf36
  v37 := Try.zeroValue36
  t70 := Try.underlying35
  a70 := Try.isAgg35
  z70 := Try.sizeOf35
  v70 := Try.zeroValue35
  t72 := Try.underlying38
  a72 := Try.isAgg38
  z72 := Try.sizeOf38
  v72 := Try.zeroValue38
  t75 := Try.underlying41
  a75 := Try.isAgg41
  z75 := Try.sizeOf41
  v75 := Try.zeroValue41
  t164 := Try.underlying48
  a164 := Try.isAgg48
  z164 := Try.sizeOf48
  v164 := Try.zeroValue48 }
theorem lays167 : Go.Proofs.Lays.n167 Try.prog ren := {
  mixed := by kernel_rfl
  f167 := Try.func24.trans (congrArg some (by kernel_rfl))
  f240 := Try.func29.trans (congrArg some (by kernel_rfl))
  f276 := Try.func33.trans (congrArg some (by kernel_rfl))
  t0 := Try.underlying0
  a0 := Try.isAgg0
  z0 := Try.sizeOf0
  v0 := Try.zeroValue0
  t4 := Try.underlying4
  a4 := Try.isAgg4
  z4 := Try.sizeOf4
  v4 := Try.zeroValue4
  t5 := Try.underlying5
  a5 := Try.isAgg5
  z5 := Try.sizeOf5
  v5 := Try.zeroValue5
  t9 := Try.underlying9
  a9 := Try.isAgg9
  z9 := Try.sizeOf9
  v9 := Try.zeroValue9
  t20 := Try.underlying20
  a20 := Try.isAgg20
  z20 := Try.sizeOf20
  v20 := Try.zeroValue20
  t37 := Try.underlying36
  a37 := Try.isAgg36
  z37 := Try.sizeOf36
  v37 := Try.zeroValue36
  t70 := Try.underlying35
  a70 := Try.isAgg35
  z70 := Try.sizeOf35
  v70 := Try.zeroValue35
  t72 := Try.underlying38
  a72 := Try.isAgg38
  z72 := Try.sizeOf38
  v72 := Try.zeroValue38
  t75 := Try.underlying41
  a75 := Try.isAgg41
  z75 := Try.sizeOf41
  v75 := Try.zeroValue41
  t164 := Try.underlying48
  a164 := Try.isAgg48
  z164 := Try.sizeOf48
  v164 := Try.zeroValue48 }
theorem lays169 : Go.Proofs.Lays.n169 Try.prog ren := {
  mixed := by kernel_rfl
  f169 := Try.func26.trans (congrArg some (by kernel_rfl))
  t0 := Try.underlying0
  a0 := Try.isAgg0
  z0 := Try.sizeOf0
  v0 := Try.zeroValue0
  t3 := Try.underlying3
  a3 := Try.isAgg3
  z3 := Try.sizeOf3
  v3 := Try.zeroValue3
  t9 := Try.underlying9
  a9 := Try.isAgg9
  z9 := Try.sizeOf9
  v9 := Try.zeroValue9
  t37 := Try.underlying36
  a37 := Try.isAgg36
  z37 := Try.sizeOf36
  v37 := Try.zeroValue36
  t70 := Try.underlying35
  a70 := Try.isAgg35
  z70 := Try.sizeOf35
  v70 := Try.zeroValue35
  t72 := Try.underlying38
  a72 := Try.isAgg38
  z72 := Try.sizeOf38
  v72 := Try.zeroValue38
  t127 := Try.underlying46
  a127 := Try.isAgg46
  z127 := Try.sizeOf46
  v127 := Try.zeroValue46 }
theorem lays102 : Go.Proofs.Lays.n102 Try.prog ren := {
  mixed := by kernel_rfl
  f102 := Try.func22.trans (congrArg some (by kernel_rfl))
  f207 := Try.func32.trans (congrArg some (by kernel_rfl))
  f209 := Try.func28.trans (congrArg some (by kernel_rfl))
  t3 := Try.underlying3
  a3 := Try.isAgg3
  z3 := Try.sizeOf3
  v3 := Try.zeroValue3
  t4 := Try.underlying4
  a4 := Try.isAgg4
  z4 := Try.sizeOf4
  v4 := Try.zeroValue4
  t9 := Try.underlying9
  a9 := Try.isAgg9
  z9 := Try.sizeOf9
  v9 := Try.zeroValue9 }
theorem extra : Builder.Extra Try.prog ren := {
  sizeBuilder := by kernel_rfl
  liesBuilder := by kernel_rfl
  t5 := Try.underlying5
  a5 := Try.isAgg5
  z5 := Try.sizeOf5
  v5 := Try.zeroValue5
  infoByte := by kernel_rfl
  cellsByte := by kernel_rfl
  sizeByte := by kernel_rfl
  neB5 := by decide }
open Go.RowKit

/-- (*strings.Builder).Grow at a builder that has not been written. -/
theorem bGrow (B b n : Nat) (w : World) (hB : B ≤ b) (hbk : w.heap[b]? = some (.cells #[.pointer none, .slice none 0 0] 38 (0, 0))) (hBw : B ≤ w.heap.size) (hn : n ≤ 281474976710656) :
    Calls Try.prog 23 #[.pointer (some ⟨b, 0, none⟩), .int .i64 n] w fun e w' => e = .returned (.tuple #[]) ∧ (Lib.BuilderAt 38 5 B b (.pointer (some ⟨b, 0, none⟩)) [] w' ∧ Below B w w') := Any.Builder_Grow_fresh lays165 extra B b n w hB hbk hBw hn

/-- (*strings.Builder).WriteByte. -/
theorem bWriteByte (B b : Nat) (bs : List Value) (c : Int) (w : World) (h : Lib.IsBuilder 38 5 B b bs w) (hlen : bs.length + 1 ≤ 140737488355328) (hBw : B ≤ w.heap.size) :
    Calls Try.prog 24 #[.pointer (some ⟨b, 0, none⟩), .int .u8 c] w fun e w' => e = .returned .nilIface ∧ (Lib.BuilderAt 38 5 B b (.pointer (some ⟨b, 0, none⟩)) (bs ++ [.int .u8 c]) w' ∧ Below B w w') := Any.Builder_WriteByte lays167 extra B b bs c w h hlen hBw

/-- (*strings.Builder).WriteString. -/
theorem bWriteString (B b : Nat) (bs : List Value) (s : ByteArray) (w : World) (h : Lib.IsBuilder 38 5 B b bs w) (hlen : bs.length + s.size ≤ 140737488355328) (hBw : B ≤ w.heap.size) :
    Calls Try.prog 25 #[.pointer (some ⟨b, 0, none⟩), .string s] w fun e w' => e = .returned (.tuple #[.int .i64 s.size, .nilIface]) ∧ (Lib.BuilderAt 38 5 B b (.pointer (some ⟨b, 0, none⟩)) (bs ++ Lib.strCells s) w' ∧ Below B w w') := Any.Builder_WriteString lays166 extra B b bs s w h hlen hBw

/-- (*strings.Builder).String at a builder that holds at least one byte. -/
theorem bString (B b : Nat) (l : List UInt8) (w : World) (h : Lib.IsBuilder 38 5 B b (Lib.byteCells l) w) (h0 : l ≠ []) :
    Calls Try.prog 26 #[.pointer (some ⟨b, 0, none⟩)] w fun e w' => e = .returned (.string ⟨l.toArray⟩) ∧ Below B w w' := Any.Builder_String lays169 extra B b l w h h0

/-- strings.TrimSuffix. -/
theorem trimSuffix_calls (s p : ByteArray) (w : World) (hs : s.size ≤ 9223372036854775807) :
    Calls Try.prog 22 #[.string s, .string p] w fun e w' => e = .returned (.string ⟨(Lib.trimSuffix s.data.toList p.data.toList).toArray⟩) ∧ w' = w := Any.strings_TrimSuffix lays102 s p w hs
end Qxb6601016a
end Go.Proofs
