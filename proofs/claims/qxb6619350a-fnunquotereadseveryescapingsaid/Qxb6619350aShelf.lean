/-
  THE SHELF's CONTRACTS OF strings.Builder AT THIS DUMP, IN PLAIN WORDS: WriteByte (20), String (19), out of the library's Derived.Shelf.Strings.Builder1.
-/
import Derived.Shelf.Strings.Builder1
import Derived.Test.Qxb6619350aRows
namespace Go.Proofs.Qxb6619350a
open Go.Shelf Go.RowKit

def ren169 : Go.Shelf.Ren := ⟨fun | 169 => 19 | n => n, fun | 70 => 41 | 9 => 9 | 0 => 0 | 72 => 43 | 37 => 27 | 127 => 48 | 3 => 3 | 5 => 5 | n => n, fun | n => n⟩
theorem lays169 : Go.Proofs.Lays.n169 Try.prog ren169 := {
  mixed := by kernel_rfl
  f169 := Try.func19.trans (congrArg some (by kernel_rfl))
  t0 := Try.underlying0
  a0 := Try.isAgg0
  z0 := Try.sizeOf0
  v0 := Try.zeroValue0
  t3 := Try.underlying3
  a3 := Try.isAgg3
  z3 := Try.sizeOf3
  v3 := Try.zeroValue3
  t9 := Try.underlying9
  a9 := Try.isAgg9
  z9 := Try.sizeOf9
  v9 := Try.zeroValue9
  t37 := Try.underlying27
  a37 := Try.isAgg27
  z37 := Try.sizeOf27
  v37 := Try.zeroValue27
  t70 := Try.underlying41
  a70 := Try.isAgg41
  z70 := Try.sizeOf41
  v70 := Try.zeroValue41
  t72 := Try.underlying43
  a72 := Try.isAgg43
  z72 := Try.sizeOf43
  v72 := Try.zeroValue43
  t127 := Try.underlying48
  a127 := Try.isAgg48
  z127 := Try.sizeOf48
  v127 := Try.zeroValue48 }
theorem extra169 : Builder.Extra Try.prog ren169 := {
  sizeBuilder := by kernel_rfl
  liesBuilder := by kernel_rfl
  t5 := Try.underlying5
  a5 := Try.isAgg5
  z5 := Try.sizeOf5
  v5 := Try.zeroValue5
  infoByte := by kernel_rfl
  cellsByte := by kernel_rfl
  sizeByte := by kernel_rfl
  neB5 := by decide }

def ren167 : Go.Shelf.Ren := ⟨fun | 167 => 20 | 240 => 21 | 276 => 22 | n => n, fun | 0 => 0 | 4 => 4 | 5 => 5 | 9 => 9 | 20 => 20 | 37 => 27 | 70 => 41 | 72 => 43 | 75 => 46 | 80 => 44 | 164 => 49 | n => n, fun | n => n⟩
theorem lays167 : Go.Proofs.Lays.n167 Try.prog ren167 := {
  mixed := by kernel_rfl
  f167 := Try.func20.trans (congrArg some (by kernel_rfl))
  f240 := Try.func21.trans (congrArg some (by kernel_rfl))
  f276 := Try.func22.trans (congrArg some (by kernel_rfl))
  t0 := Try.underlying0
  a0 := Try.isAgg0
  z0 := Try.sizeOf0
  v0 := Try.zeroValue0
  t4 := Try.underlying4
  a4 := Try.isAgg4
  z4 := Try.sizeOf4
  v4 := Try.zeroValue4
  t5 := Try.underlying5
  a5 := Try.isAgg5
  z5 := Try.sizeOf5
  v5 := Try.zeroValue5
  t9 := Try.underlying9
  a9 := Try.isAgg9
  z9 := Try.sizeOf9
  v9 := Try.zeroValue9
  t20 := Try.underlying20
  a20 := Try.isAgg20
  z20 := Try.sizeOf20
  v20 := Try.zeroValue20
  t37 := Try.underlying27
  a37 := Try.isAgg27
  z37 := Try.sizeOf27
  v37 := Try.zeroValue27
  t70 := Try.underlying41
  a70 := Try.isAgg41
  z70 := Try.sizeOf41
  v70 := Try.zeroValue41
  t72 := Try.underlying43
  a72 := Try.isAgg43
  z72 := Try.sizeOf43
  v72 := Try.zeroValue43
  t75 := Try.underlying46
  a75 := Try.isAgg46
  z75 := Try.sizeOf46
  v75 := Try.zeroValue46
  t164 := Try.underlying49
  a164 := Try.isAgg49
  z164 := Try.sizeOf49
  v164 := Try.zeroValue49 }
theorem extra167 : Builder.Extra Try.prog ren167 := {
  sizeBuilder := by kernel_rfl
  liesBuilder := by kernel_rfl
  t5 := Try.underlying5
  a5 := Try.isAgg5
  z5 := Try.sizeOf5
  v5 := Try.zeroValue5
  infoByte := by kernel_rfl
  cellsByte := by kernel_rfl
  sizeByte := by kernel_rfl
  neB5 := by decide }

theorem Try.info5 : (Try.prog.info? 5).map (fun i => (i.zero, i.size, i.bytes)) = some (some (.int .u8 0), 1, 1) := by kernel_rfl

/-- (*strings.Builder).WriteByte. -/
theorem writeByte_any (B b : Nat) (bs : List Value) (c : Int) (w : World) (h : Lib.IsBuilder 43 5 B b bs w) (hlen : bs.length + 1 ≤ 140737488355328) (hBw : B ≤ w.heap.size) :
    Calls Try.prog 20 #[.pointer (some ⟨b, 0, none⟩), .int .u8 c] w fun e w' => e = .returned .nilIface ∧ (Lib.BuilderAt 43 5 B b (.pointer (some ⟨b, 0, none⟩)) (bs ++ [.int .u8 c]) w' ∧ Below B w w') :=
  Any.Builder_WriteByte lays167 extra167 B b bs c w h hlen hBw

/-- (*strings.Builder).String, whatever the builder holds. -/
theorem string_any (B b : Nat) (l : List UInt8) (w : World) (h : Lib.IsBuilder 43 5 B b (Lib.byteCells l) w) (hBw : B ≤ w.heap.size) :
    Calls Try.prog 19 #[.pointer (some ⟨b, 0, none⟩)] w fun e w' => e = .returned (.string ⟨l.toArray⟩) ∧ Below B w w' :=
  Any.Builder_String_any lays169 extra169 B b l w h hBw

end Go.Proofs.Qxb6619350a
