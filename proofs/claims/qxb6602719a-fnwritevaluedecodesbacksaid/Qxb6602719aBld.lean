/-
  strings.Builder at this program: WriteByte, WriteString, String: the shelf's own contracts (Derived/Shelf/Strings/Builder1.lean), laid by hand at this dump's numbers: the table of numbers is typed here; each body is held against the shelf's by the kernel.
-/
import Derived.Test.Qxb6602719aRows
import Derived.Shelf.Strings.Builder1
import Derived.WalkKit
import Derived.ProofKit
namespace Go.Proofs.Qxb6602719a.Bld
open Go.RowKit Go.Shelf

/-- The shelf's numbers, and this dump's. -/
def ren : Ren := ⟨fun | 166 => 32 | 167 => 31 | 169 => 11 | 240 => 37 | 276 => 41 | n => n, fun | 37 => 24 | 70 => 23 | 71 => 25 | 72 => 26 | 73 => 69 | 75 => 59 | 76 => 61 | 77 => 62 | 78 => 60 | 80 => 30 | 127 => 56 | 164 => 70 | 165 => 71 | n => n, fun n => n⟩

theorem lays166 : Lays.n166 Try.prog ren := {
  mixed := by kernel_rfl
  f166 := Try.func32.trans (congrArg some (by kernel_rfl))
  f240 := Try.func37.trans (congrArg some (by kernel_rfl))
  f276 := Try.func41.trans (congrArg some (by kernel_rfl))
  t0 := Try.underlying0
  a0 := Try.isAgg0
  z0 := Try.sizeOf0
  v0 := Try.zeroValue0
  t3 := Try.underlying3
  a3 := Try.isAgg3
  z3 := Try.sizeOf3
  v3 := Try.zeroValue3
  t4 := Try.underlying4
  a4 := Try.isAgg4
  z4 := Try.sizeOf4
  v4 := Try.zeroValue4
  t9 := Try.underlying9
  a9 := Try.isAgg9
  z9 := Try.sizeOf9
  v9 := Try.zeroValue9
  t20 := Try.underlying20
  a20 := Try.isAgg20
  z20 := Try.sizeOf20
  v20 := Try.zeroValue20
  t37 := Try.underlying24
  a37 := Try.isAgg24
  z37 := Try.sizeOf24
  v37 := Try.zeroValue24
  t70 := Try.underlying23
  a70 := Try.isAgg23
  z70 := Try.sizeOf23
  v70 := Try.zeroValue23
  t72 := Try.underlying26
  a72 := Try.isAgg26
  z72 := Try.sizeOf26
  v72 := Try.zeroValue26
  t75 := Try.underlying59
  a75 := Try.isAgg59
  z75 := Try.sizeOf59
  v75 := Try.zeroValue59
  t164 := Try.underlying70
  a164 := Try.isAgg70
  z164 := Try.sizeOf70
  v164 := Try.zeroValue70 }

theorem lays167 : Lays.n167 Try.prog ren := {
  mixed := by kernel_rfl
  f167 := Try.func31.trans (congrArg some (by kernel_rfl))
  f240 := Try.func37.trans (congrArg some (by kernel_rfl))
  f276 := Try.func41.trans (congrArg some (by kernel_rfl))
  t0 := Try.underlying0
  a0 := Try.isAgg0
  z0 := Try.sizeOf0
  v0 := Try.zeroValue0
  t4 := Try.underlying4
  a4 := Try.isAgg4
  z4 := Try.sizeOf4
  v4 := Try.zeroValue4
  t5 := Try.underlying5
  a5 := Try.isAgg5
  z5 := Try.sizeOf5
  v5 := Try.zeroValue5
  t9 := Try.underlying9
  a9 := Try.isAgg9
  z9 := Try.sizeOf9
  v9 := Try.zeroValue9
  t20 := Try.underlying20
  a20 := Try.isAgg20
  z20 := Try.sizeOf20
  v20 := Try.zeroValue20
  t37 := Try.underlying24
  a37 := Try.isAgg24
  z37 := Try.sizeOf24
  v37 := Try.zeroValue24
  t70 := Try.underlying23
  a70 := Try.isAgg23
  z70 := Try.sizeOf23
  v70 := Try.zeroValue23
  t72 := Try.underlying26
  a72 := Try.isAgg26
  z72 := Try.sizeOf26
  v72 := Try.zeroValue26
  t75 := Try.underlying59
  a75 := Try.isAgg59
  z75 := Try.sizeOf59
  v75 := Try.zeroValue59
  t164 := Try.underlying70
  a164 := Try.isAgg70
  z164 := Try.sizeOf70
  v164 := Try.zeroValue70 }

theorem lays169 : Lays.n169 Try.prog ren := {
  mixed := by kernel_rfl
  f169 := Try.func11.trans (congrArg some (by kernel_rfl))
  t0 := Try.underlying0
  a0 := Try.isAgg0
  z0 := Try.sizeOf0
  v0 := Try.zeroValue0
  t3 := Try.underlying3
  a3 := Try.isAgg3
  z3 := Try.sizeOf3
  v3 := Try.zeroValue3
  t9 := Try.underlying9
  a9 := Try.isAgg9
  z9 := Try.sizeOf9
  v9 := Try.zeroValue9
  t37 := Try.underlying24
  a37 := Try.isAgg24
  z37 := Try.sizeOf24
  v37 := Try.zeroValue24
  t70 := Try.underlying23
  a70 := Try.isAgg23
  z70 := Try.sizeOf23
  v70 := Try.zeroValue23
  t72 := Try.underlying26
  a72 := Try.isAgg26
  z72 := Try.sizeOf26
  v72 := Try.zeroValue26
  t127 := Try.underlying56
  a127 := Try.isAgg56
  z127 := Try.sizeOf56
  v127 := Try.zeroValue56 }

theorem infoByte : (Try.prog.info? 5).map (fun i => (i.zero, i.size, i.bytes)) = some (some (.int .u8 0), 1, 1) := by kernel_rfl

theorem extra : Builder.Extra Try.prog ren := {
  sizeBuilder := by kernel_rfl
  liesBuilder := by kernel_rfl
  t5 := Try.underlying5
  a5 := Try.isAgg5
  z5 := Try.sizeOf5
  v5 := Try.zeroValue5
  infoByte := infoByte
  cellsByte := by kernel_rfl
  sizeByte := by kernel_rfl
  neB5 := by decide }

theorem writeByte_any (B b : Nat) (bs : List Value) (c : Int) (w : World) (h : Lib.IsBuilder 26 5 B b bs w) (hlen : bs.length + 1 ≤ 140737488355328) (hBw : B ≤ w.heap.size) :
    Calls Try.prog 31 #[.pointer (some ⟨b, 0, none⟩), .int .u8 c] w fun e w' => e = .returned .nilIface ∧ (Lib.BuilderAt 26 5 B b (.pointer (some ⟨b, 0, none⟩)) (bs ++ [.int .u8 c]) w' ∧ Below B w w') :=
  Any.Builder_WriteByte lays167 extra B b bs c w h hlen hBw

theorem writeString_any (B b : Nat) (bs : List Value) (s : ByteArray) (w : World) (h : Lib.IsBuilder 26 5 B b bs w) (hlen : bs.length + s.size ≤ 140737488355328) (hBw : B ≤ w.heap.size) :
    Calls Try.prog 32 #[.pointer (some ⟨b, 0, none⟩), .string s] w fun e w' => e = .returned (.tuple #[.int .i64 s.size, .nilIface]) ∧ (Lib.BuilderAt 26 5 B b (.pointer (some ⟨b, 0, none⟩)) (bs ++ Lib.strCells s) w' ∧ Below B w w') :=
  Any.Builder_WriteString lays166 extra B b bs s w h hlen hBw

theorem string_some (B b : Nat) (l : List UInt8) (w : World) (h : Lib.IsBuilder 26 5 B b (Lib.byteCells l) w) (h0 : l ≠ []) :
    Calls Try.prog 11 #[.pointer (some ⟨b, 0, none⟩)] w fun e w' => e = .returned (.string ⟨l.toArray⟩) ∧ Below B w w' :=
  Any.Builder_String lays169 extra B b l w h h0

theorem string_nil (B b : Nat) (p : Value) (w : World) (hbk : w.heap[b]? = some (.cells #[p, .slice none 0 0] 26 (0, 0))) :
    Calls Try.prog 11 #[.pointer (some ⟨b, 0, none⟩)] w fun e w' => e = .returned (.string ⟨#[]⟩) ∧ Below B w w' :=
  Any.Builder_String_nil lays169 extra B b p w hbk
end Go.Proofs.Qxb6602719a.Bld
