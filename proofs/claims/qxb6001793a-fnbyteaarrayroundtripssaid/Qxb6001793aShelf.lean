/-
  THE SHELF's CONTRACTS AT THIS DUMP, in plain words (written by the kit's tools for this program; the layings of copyCheck, WriteByte and WriteString by hand: the same fields).
-/
import Derived.Shelf.Strings.BuilderK
import Derived.Shelf.Hex.More
import Derived.Test.Qxb6001793aProg
namespace Go.Proofs
open Go.Shelf
def Try.lays169_ren : Go.Shelf.Ren := ⟨fun | 169 => 28 | n => n, fun | 70 => 40 | 9 => 9 | 0 => 0 | 72 => 42 | 37 => 33 | 127 => 52 | 3 => 3 | 5 => 5 | n => n, fun | n => n⟩
theorem Try.lays169 : Go.Proofs.Lays.n169 Try.prog Try.lays169_ren := {
  mixed := by kernel_rfl
  f169 := Try.func28.trans (congrArg some (by kernel_rfl))
  t0 := Try.underlying0
  a0 := Try.isAgg0
  z0 := Try.sizeOf0
  v0 := Try.zeroValue0
  t3 := Try.underlying3
  a3 := Try.isAgg3
  z3 := Try.sizeOf3
  v3 := Try.zeroValue3
  t9 := Try.underlying9
  a9 := Try.isAgg9
  z9 := Try.sizeOf9
  v9 := Try.zeroValue9
  t37 := Try.underlying33
  a37 := Try.isAgg33
  z37 := Try.sizeOf33
  v37 := Try.zeroValue33
  t70 := Try.underlying40
  a70 := Try.isAgg40
  z70 := Try.sizeOf40
  v70 := Try.zeroValue40
  t72 := Try.underlying42
  a72 := Try.isAgg42
  z72 := Try.sizeOf42
  v72 := Try.zeroValue42
  t127 := Try.underlying52
  a127 := Try.isAgg52
  z127 := Try.sizeOf52
  v127 := Try.zeroValue52 }
theorem Try.Builder_Extra_169 : Builder.Extra Try.prog Try.lays169_ren := {
  sizeBuilder := by kernel_rfl
  liesBuilder := by kernel_rfl
  t5 := Try.underlying5
  a5 := Try.isAgg5
  z5 := Try.sizeOf5
  v5 := Try.zeroValue5
  infoByte := by kernel_rfl
  cellsByte := by kernel_rfl
  sizeByte := by kernel_rfl
  neB5 := by decide }
open Go.RowKit in
theorem Try.Builder_String_any_k (B b : Nat) (l : List UInt8) (w : World) (h : Lib.IsBuilderF 42 5 B b (Lib.byteCells l) w) (hBw : B ≤ w.heap.size) :
    Calls Try.prog 28 #[.pointer (some ⟨b, 0, none⟩)] w fun e w' => e = .returned (.string ⟨l.toArray⟩) ∧ (Lib.IsBuilderF 42 5 B b (Lib.byteCells l) w' ∧ Below B w w' ∧ Lib.OthersKept 5 (some b) w w') := Any.Builder_String_any_k Try.lays169 Try.Builder_Extra_169 B b l w h hBw
def Try.laysPah39_ren : Go.Shelf.Ren := ⟨fun | 39 => 27 | 41 => 32 | 40 => 33 | n => n, fun | 30 => 33 | 9 => 9 | 3 => 3 | 0 => 0 | 5 => 5 | 46 => 37 | n => n, fun | n => n⟩
theorem Try.laysPah39 : Go.Proofs.Lays.ph39 Try.prog Try.laysPah39_ren := {
  mixed := by kernel_rfl
  f39 := Try.func27.trans (congrArg some (by kernel_rfl))
  f40 := Try.func33.trans (congrArg some (by kernel_rfl))
  f41 := Try.func32.trans (congrArg some (by kernel_rfl))
  t0 := Try.underlying0
  a0 := Try.isAgg0
  z0 := Try.sizeOf0
  v0 := Try.zeroValue0
  t3 := Try.underlying3
  a3 := Try.isAgg3
  z3 := Try.sizeOf3
  v3 := Try.zeroValue3
  t5 := Try.underlying5
  a5 := Try.isAgg5
  z5 := Try.sizeOf5
  v5 := Try.zeroValue5
  t9 := Try.underlying9
  a9 := Try.isAgg9
  z9 := Try.sizeOf9
  v9 := Try.zeroValue9
  t30 := Try.underlying33
  a30 := Try.isAgg33
  z30 := Try.sizeOf33
  v30 := Try.zeroValue33
  t46 := Try.underlying37
  a46 := Try.isAgg37
  z46 := Try.sizeOf37
  v46 := Try.zeroValue37
  info5 := by kernel_rfl }
open Go.RowKit Go.Lib in
theorem Try.hex_EncodeToString_nil (w : World) :
    Calls Try.prog 27 #[.slice none 0 0] w fun e w' => e = .returned (.string ⟨#[]⟩) ∧ Below w.heap.size w w' := Any.hex_EncodeToString_nil Try.laysPah39 w
open Go.RowKit Go.Lib in
theorem Try.hex_EncodeToString_bytes (bs os cs : Nat) (l : List UInt8) (w : World) (hsrc : ∀ i (h : i < l.length), w.cell? ⟨bs, os + i, none⟩ = some (.int .u8 ((l[i]'h).toNat : Int))) (hb : bs < w.heap.size) (hbig : 2 * l.length ≤ 281474976710656) :
    Calls Try.prog 27 #[.slice (some ⟨bs, os, none⟩) l.length cs] w fun e w' => e = .returned (.string ⟨(Hx.encode l).toArray⟩) ∧ Below w.heap.size w w' := Any.hex_EncodeToString_bytes Try.laysPah39 bs os cs l w hsrc hb hbig
def Try.lays240_ren : Go.Shelf.Ren := ⟨fun | 240 => 31 | 276 => 35 | n => n, fun | 70 => 40 | 72 => 42 | 37 => 33 | 164 => 53 | 5 => 5 | 0 => 0 | 4 => 4 | 9 => 9 | 20 => 20 | n => n, fun | n => n⟩
theorem Try.lays240 : Go.Proofs.Lays.n240 Try.prog Try.lays240_ren := {
  mixed := by kernel_rfl
  f240 := Try.func31.trans (congrArg some (by kernel_rfl))
  f276 := Try.func35.trans (congrArg some (by kernel_rfl))
  t0 := Try.underlying0
  a0 := Try.isAgg0
  z0 := Try.sizeOf0
  v0 := Try.zeroValue0
  t4 := Try.underlying4
  a4 := Try.isAgg4
  z4 := Try.sizeOf4
  v4 := Try.zeroValue4
  t9 := Try.underlying9
  a9 := Try.isAgg9
  z9 := Try.sizeOf9
  v9 := Try.zeroValue9
  t20 := Try.underlying20
  a20 := Try.isAgg20
  z20 := Try.sizeOf20
  v20 := Try.zeroValue20
  t70 := Try.underlying40
  a70 := Try.isAgg40
  z70 := Try.sizeOf40
  v70 := Try.zeroValue40
  t72 := Try.underlying42
  a72 := Try.isAgg42
  z72 := Try.sizeOf42
  v72 := Try.zeroValue42
  t164 := Try.underlying53
  a164 := Try.isAgg53
  z164 := Try.sizeOf53
  v164 := Try.zeroValue53 }
def Try.lays167_ren : Go.Shelf.Ren := ⟨fun | 167 => 25 | 240 => 31 | 276 => 35 | n => n, fun | 70 => 40 | 72 => 42 | 37 => 33 | 164 => 53 | 5 => 5 | 0 => 0 | 4 => 4 | 9 => 9 | 20 => 20 | 75 => 44 | 80 => 49 | 3 => 3 | n => n, fun | n => n⟩
theorem Try.lays167 : Go.Proofs.Lays.n167 Try.prog Try.lays167_ren := {
  mixed := by kernel_rfl
  f167 := Try.func25.trans (congrArg some (by kernel_rfl))
  f240 := Try.func31.trans (congrArg some (by kernel_rfl))
  f276 := Try.func35.trans (congrArg some (by kernel_rfl))
  t0 := Try.underlying0
  a0 := Try.isAgg0
  z0 := Try.sizeOf0
  v0 := Try.zeroValue0
  t4 := Try.underlying4
  a4 := Try.isAgg4
  z4 := Try.sizeOf4
  v4 := Try.zeroValue4
  t5 := Try.underlying5
  a5 := Try.isAgg5
  z5 := Try.sizeOf5
  v5 := Try.zeroValue5
  t9 := Try.underlying9
  a9 := Try.isAgg9
  z9 := Try.sizeOf9
  v9 := Try.zeroValue9
  t20 := Try.underlying20
  a20 := Try.isAgg20
  z20 := Try.sizeOf20
  v20 := Try.zeroValue20
  t37 := Try.underlying33
  a37 := Try.isAgg33
  z37 := Try.sizeOf33
  v37 := Try.zeroValue33
  t70 := Try.underlying40
  a70 := Try.isAgg40
  z70 := Try.sizeOf40
  v70 := Try.zeroValue40
  t72 := Try.underlying42
  a72 := Try.isAgg42
  z72 := Try.sizeOf42
  v72 := Try.zeroValue42
  t75 := Try.underlying44
  a75 := Try.isAgg44
  z75 := Try.sizeOf44
  v75 := Try.zeroValue44
  t164 := Try.underlying53
  a164 := Try.isAgg53
  z164 := Try.sizeOf53
  v164 := Try.zeroValue53 }
def Try.lays166_ren : Go.Shelf.Ren := ⟨fun | 166 => 26 | 240 => 31 | 276 => 35 | n => n, fun | 70 => 40 | 72 => 42 | 37 => 33 | 164 => 53 | 5 => 5 | 0 => 0 | 4 => 4 | 9 => 9 | 20 => 20 | 75 => 44 | 80 => 49 | 3 => 3 | n => n, fun | n => n⟩
theorem Try.lays166 : Go.Proofs.Lays.n166 Try.prog Try.lays166_ren := {
  mixed := by kernel_rfl
  f166 := Try.func26.trans (congrArg some (by kernel_rfl))
  f240 := Try.func31.trans (congrArg some (by kernel_rfl))
  f276 := Try.func35.trans (congrArg some (by kernel_rfl))
  t0 := Try.underlying0
  a0 := Try.isAgg0
  z0 := Try.sizeOf0
  v0 := Try.zeroValue0
  t3 := Try.underlying3
  a3 := Try.isAgg3
  z3 := Try.sizeOf3
  v3 := Try.zeroValue3
  t4 := Try.underlying4
  a4 := Try.isAgg4
  z4 := Try.sizeOf4
  v4 := Try.zeroValue4
  t9 := Try.underlying9
  a9 := Try.isAgg9
  z9 := Try.sizeOf9
  v9 := Try.zeroValue9
  t20 := Try.underlying20
  a20 := Try.isAgg20
  z20 := Try.sizeOf20
  v20 := Try.zeroValue20
  t37 := Try.underlying33
  a37 := Try.isAgg33
  z37 := Try.sizeOf33
  v37 := Try.zeroValue33
  t70 := Try.underlying40
  a70 := Try.isAgg40
  z70 := Try.sizeOf40
  v70 := Try.zeroValue40
  t72 := Try.underlying42
  a72 := Try.isAgg42
  z72 := Try.sizeOf42
  v72 := Try.zeroValue42
  t75 := Try.underlying44
  a75 := Try.isAgg44
  z75 := Try.sizeOf44
  v75 := Try.zeroValue44
  t164 := Try.underlying53
  a164 := Try.isAgg53
  z164 := Try.sizeOf53
  v164 := Try.zeroValue53 }
theorem Try.Builder_X72_240 : Builder.X72 Try.prog Try.lays240_ren := {
  sizeBuilder := by kernel_rfl
  liesBuilder := by kernel_rfl }
theorem Try.Builder_Extra_167 : Builder.Extra Try.prog Try.lays167_ren := {
  sizeBuilder := by kernel_rfl
  liesBuilder := by kernel_rfl
  t5 := Try.underlying5
  a5 := Try.isAgg5
  z5 := Try.sizeOf5
  v5 := Try.zeroValue5
  infoByte := by kernel_rfl
  cellsByte := by kernel_rfl
  sizeByte := by kernel_rfl
  neB5 := by decide }
theorem Try.Builder_Extra_166 : Builder.Extra Try.prog Try.lays166_ren := {
  sizeBuilder := by kernel_rfl
  liesBuilder := by kernel_rfl
  t5 := Try.underlying5
  a5 := Try.isAgg5
  z5 := Try.sizeOf5
  v5 := Try.zeroValue5
  infoByte := by kernel_rfl
  cellsByte := by kernel_rfl
  sizeByte := by kernel_rfl
  neB5 := by decide }
open Go.RowKit in
theorem Try.Builder_WriteByte_k (B b : Nat) (bs : List Value) (c : Int) (w : World) (h : Lib.IsBuilderF 42 5 B b bs w) (hlen : bs.length + 1 ≤ 140737488355328) (hBw : B ≤ w.heap.size) :
    Calls Try.prog 25 #[.pointer (some ⟨b, 0, none⟩), .int .u8 c] w fun e w' => e = .returned .nilIface ∧ (Lib.BuilderAtF 42 5 B b (.pointer (some ⟨b, 0, none⟩)) (bs ++ [.int .u8 c]) w' ∧ Below B w w' ∧ Lib.OthersKept 5 (some b) w w') := Any.Builder_WriteByte_k Try.lays167 Try.Builder_Extra_167 B b bs c w h hlen hBw
open Go.RowKit in
theorem Try.Builder_WriteString_k (B b : Nat) (bs : List Value) (s : ByteArray) (w : World) (h : Lib.IsBuilderF 42 5 B b bs w) (hlen : bs.length + s.size ≤ 140737488355328) (hBw : B ≤ w.heap.size) :
    Calls Try.prog 26 #[.pointer (some ⟨b, 0, none⟩), .string s] w fun e w' => e = .returned (.tuple #[.int .i64 s.size, .nilIface]) ∧ (Lib.BuilderAtF 42 5 B b (.pointer (some ⟨b, 0, none⟩)) (bs ++ Lib.strCells s) w' ∧ Below B w w' ∧ Lib.OthersKept 5 (some b) w w') := Any.Builder_WriteString_k Try.lays166 Try.Builder_Extra_166 B b bs s w h hlen hBw
end Go.Proofs
