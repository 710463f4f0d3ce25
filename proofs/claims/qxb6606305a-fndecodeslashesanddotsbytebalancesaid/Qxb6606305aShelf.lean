import Derived.Shelf.Strings.Builder1
import Derived.Shelf.Strings.Builder2
import Derived.Shelf.Small.Strs
import Derived.Shelf.Strings.Search1
import Derived.Shelf.Strings.Search2
import Derived.Shelf.Strings.Search3
import Derived.Shelf.LaysM
import Derived.Shelf.Strings.Shaped
import Derived.Test.Qxb6606305aProg
namespace Go.Proofs
open Go.Shelf
def Try.lays169_ren : Go.Shelf.Ren := ⟨fun | 169 => 17 | n => n, fun | 70 => 28 | 9 => 9 | 0 => 0 | 72 => 30 | 37 => 26 | 127 => 40 | 3 => 3 | 5 => 5 | n => n, fun | n => n⟩
theorem Try.lays169 : Go.Proofs.Lays.n169 Try.prog Try.lays169_ren := {
  mixed := by kernel_rfl
  f169 := Try.func17.trans (congrArg some (by kernel_rfl))
  t0 := Try.underlying0
  a0 := Try.isAgg0
  z0 := Try.sizeOf0
  v0 := Try.zeroValue0
  t3 := Try.underlying3
  a3 := Try.isAgg3
  z3 := Try.sizeOf3
  v3 := Try.zeroValue3
  t9 := Try.underlying9
  a9 := Try.isAgg9
  z9 := Try.sizeOf9
  v9 := Try.zeroValue9
  t37 := Try.underlying26
  a37 := Try.isAgg26
  z37 := Try.sizeOf26
  v37 := Try.zeroValue26
  t70 := Try.underlying28
  a70 := Try.isAgg28
  z70 := Try.sizeOf28
  v70 := Try.zeroValue28
  t72 := Try.underlying30
  a72 := Try.isAgg30
  z72 := Try.sizeOf30
  v72 := Try.zeroValue30
  t127 := Try.underlying40
  a127 := Try.isAgg40
  z127 := Try.sizeOf40
  v127 := Try.zeroValue40 }
theorem Try.Builder_Extra_169 : Builder.Extra Try.prog Try.lays169_ren := {
  sizeBuilder := by kernel_rfl
  liesBuilder := by kernel_rfl
  t5 := Try.underlying5
  a5 := Try.isAgg5
  z5 := Try.sizeOf5
  v5 := Try.zeroValue5
  infoByte := by kernel_rfl
  cellsByte := by kernel_rfl
  sizeByte := by kernel_rfl
  neB5 := by decide }
open Go.RowKit in
theorem Try.Builder_String_any (B b : Nat) (l : List UInt8) (w : World) (h : Lib.IsBuilder 30 5 B b (Lib.byteCells l) w) (hBw : B ≤ w.heap.size) :
    Calls Try.prog 17 #[.pointer (some ⟨b, 0, none⟩)] w fun e w' => e = .returned (.string ⟨l.toArray⟩) ∧ Below B w w' := Any.Builder_String_any Try.lays169 Try.Builder_Extra_169 B b l w h hBw
def Try.lays165_ren : Go.Shelf.Ren := ⟨fun | 165 => 14 | 240 => 20 | 241 => 21 | 276 => 24 | 277 => 25 | n => n, fun | 70 => 28 | 3 => 3 | 0 => 0 | 4 => 4 | 9 => 9 | 20 => 20 | 72 => 30 | 37 => 26 | 164 => 41 | 5 => 5 | n => n, fun | n => n⟩
theorem Try.lays165 : Go.Proofs.Lays.n165 Try.prog Try.lays165_ren := {
  mixed := by kernel_rfl
  f165 := Try.func14.trans (congrArg some (by kernel_rfl))
  f240 := Try.func20.trans (congrArg some (by kernel_rfl))
  f241 := Try.func21.trans (congrArg some (by kernel_rfl))
  f276 := Try.func24.trans (congrArg some (by kernel_rfl))
  f277 := Try.func25.trans (congrArg some (by kernel_rfl))
  t0 := Try.underlying0
  a0 := Try.isAgg0
  z0 := Try.sizeOf0
  v0 := Try.zeroValue0
  t3 := Try.underlying3
  a3 := Try.isAgg3
  z3 := Try.sizeOf3
  v3 := Try.zeroValue3
  t4 := Try.underlying4
  a4 := Try.isAgg4
  z4 := Try.sizeOf4
  v4 := Try.zeroValue4
  t9 := Try.underlying9
  a9 := Try.isAgg9
  z9 := Try.sizeOf9
  v9 := Try.zeroValue9
  t20 := Try.underlying20
  a20 := Try.isAgg20
  z20 := Try.sizeOf20
  v20 := Try.zeroValue20
  t37 := Try.underlying26
  a37 := Try.isAgg26
  z37 := Try.sizeOf26
  v37 := Try.zeroValue26
  t70 := Try.underlying28
  a70 := Try.isAgg28
  z70 := Try.sizeOf28
  v70 := Try.zeroValue28
  t72 := Try.underlying30
  a72 := Try.isAgg30
  z72 := Try.sizeOf30
  v72 := Try.zeroValue30
  t164 := Try.underlying41
  a164 := Try.isAgg41
  z164 := Try.sizeOf41
  v164 := Try.zeroValue41 }
theorem Try.Builder_Extra_165 : Builder.Extra Try.prog Try.lays165_ren := {
  sizeBuilder := by kernel_rfl
  liesBuilder := by kernel_rfl
  t5 := Try.underlying5
  a5 := Try.isAgg5
  z5 := Try.sizeOf5
  v5 := Try.zeroValue5
  infoByte := by kernel_rfl
  cellsByte := by kernel_rfl
  sizeByte := by kernel_rfl
  neB5 := by decide }
open Go.RowKit in
theorem Try.Builder_Grow_fresh (B b n : Nat) (w : World) (hB : B ≤ b) (hbk : w.heap[b]? = some (.cells #[.pointer none, .slice none 0 0] 30 (0, 0))) (hBw : B ≤ w.heap.size) (hn : n ≤ 281474976710656) :
    Calls Try.prog 14 #[.pointer (some ⟨b, 0, none⟩), .int .i64 n] w fun e w' => e = .returned (.tuple #[]) ∧ (Lib.BuilderAt 30 5 B b (.pointer (some ⟨b, 0, none⟩)) [] w' ∧ Below B w w') := Any.Builder_Grow_fresh Try.lays165 Try.Builder_Extra_165 B b n w hB hbk hBw hn
def Try.lays137_ren : Go.Shelf.Ren := ⟨fun | 137 => 13 | 217 => 19 | 266 => 23 | n => n, fun | 9 => 9 | 5 => 5 | 3 => 3 | n => n, fun | n => n⟩
theorem Try.lays137 : Go.Proofs.Lays.n137 Try.prog Try.lays137_ren := {
  mixed := by kernel_rfl
  f137 := Try.func13.trans (congrArg some (by kernel_rfl))
  f217 := Try.func19.trans (congrArg some (by kernel_rfl))
  f266 := Try.func23.trans (congrArg some (by kernel_rfl))
  t3 := Try.underlying3
  a3 := Try.isAgg3
  z3 := Try.sizeOf3
  v3 := Try.zeroValue3
  t5 := Try.underlying5
  a5 := Try.isAgg5
  z5 := Try.sizeOf5
  v5 := Try.zeroValue5
  t9 := Try.underlying9
  a9 := Try.isAgg9
  z9 := Try.sizeOf9
  v9 := Try.zeroValue9 }
open Go.RowKit in
theorem Try.strings_IndexByte (s : ByteArray) (c : Int) (w : World) :
    Calls Try.prog 13 #[.string s, .int .u8 c] w fun e w' => e = .returned (.int .i64 (Lib.indexByte s.data.toList c.toNat.toUInt8)) ∧ w' = w := Any.strings_IndexByte Try.lays137 s c w
def Try.lays144_ren : Go.Shelf.Ren := ⟨fun | 144 => 12 | 143 => 18 | 219 => 22 | 217 => 19 | 225 => 26 | 224 => 27 | 267 => 28 | 266 => 23 | 314 => 29 | n => n, fun | 9 => 9 | 4 => 4 | 3 => 3 | 5 => 5 | 46 => 45 | 146 => 47 | 51 => 46 | n => n, fun | 1 => 0 | n => n⟩
theorem Try.lays144 : Go.Proofs.Lays.n144 Try.prog Try.lays144_ren := {
  mixed := by kernel_rfl
  f143 := Try.func18.trans (congrArg some (by kernel_rfl))
  f144 := Try.func12.trans (congrArg some (by kernel_rfl))
  f217 := Try.func19.trans (congrArg some (by kernel_rfl))
  f219 := Try.func22.trans (congrArg some (by kernel_rfl))
  f224 := Try.func27.trans (congrArg some (by kernel_rfl))
  f225 := Try.func26.trans (congrArg some (by kernel_rfl))
  f266 := Try.func23.trans (congrArg some (by kernel_rfl))
  f267 := Try.func28.trans (congrArg some (by kernel_rfl))
  f314 := Try.func29.trans (congrArg some (by kernel_rfl))
  t3 := Try.underlying3
  a3 := Try.isAgg3
  z3 := Try.sizeOf3
  v3 := Try.zeroValue3
  t4 := Try.underlying4
  a4 := Try.isAgg4
  z4 := Try.sizeOf4
  v4 := Try.zeroValue4
  t5 := Try.underlying5
  a5 := Try.isAgg5
  z5 := Try.sizeOf5
  v5 := Try.zeroValue5
  t9 := Try.underlying9
  a9 := Try.isAgg9
  z9 := Try.sizeOf9
  v9 := Try.zeroValue9
  t46 := Try.underlying45
  a46 := Try.isAgg45
  z46 := Try.sizeOf45
  v46 := Try.zeroValue45
  t51 := Try.underlying46
  a51 := Try.isAgg46
  z51 := Try.sizeOf46
  v51 := Try.zeroValue46
  t146 := Try.underlying47
  a146 := Try.isAgg47
  z146 := Try.sizeOf47
  v146 := Try.zeroValue47
  g1 := by kernel_rfl }
open Go.RowKit Go.Lib in
theorem Try.strings_Contains (s sub : ByteArray) (m : Int) (w : World) (hs : s.size < 4294967281) (hm : w.cell? ⟨0, 0, none⟩ = some (.int .i64 m)) :
    Calls Try.prog 12 #[.string s, .string sub] w fun e w' => e = .returned (.bool (Lib.contains s.data.toList sub.data.toList)) ∧ w' = w := Any.strings_Contains Try.lays144 s sub m w hs hm
def Try.laysM144_ren : Go.Shelf.Ren := ⟨fun | 144 => 12 | 143 => 18 | 219 => 22 | 217 => 19 | 225 => 26 | 224 => 27 | 267 => 28 | 266 => 23 | 314 => 29 | n => n, fun | 9 => 9 | 4 => 4 | 3 => 3 | 5 => 5 | 46 => 45 | 146 => 47 | 51 => 46 | n => n, fun | 1 => 0 | n => n⟩
theorem Try.laysM144 : Go.Proofs.LaysM.n144 Try.prog Try.laysM144_ren := {
  mixed := by kernel_rfl
  f143 := Try.func18.trans (congrArg some (by kernel_rfl))
  f144 := Try.func12.trans (congrArg some (by kernel_rfl))
  f217 := Try.func19.trans (congrArg some (by kernel_rfl))
  f219 := Try.func22.trans (congrArg some (by kernel_rfl))
  f224 := Try.func27.trans (congrArg some (by kernel_rfl))
  f225 := Try.func26.trans (congrArg some (by kernel_rfl))
  f266 := Try.func23.trans (congrArg some (by kernel_rfl))
  f267 := Try.func28.trans (congrArg some (by kernel_rfl))
  f314 := Try.func29.trans (congrArg some (by kernel_rfl))
  t3 := Try.underlying3
  a3 := Try.isAgg3
  z3 := Try.sizeOf3
  v3 := Try.zeroValue3
  t4 := Try.underlying4
  a4 := Try.isAgg4
  z4 := Try.sizeOf4
  v4 := Try.zeroValue4
  t5 := Try.underlying5
  a5 := Try.isAgg5
  z5 := Try.sizeOf5
  v5 := Try.zeroValue5
  t9 := Try.underlying9
  a9 := Try.isAgg9
  z9 := Try.sizeOf9
  v9 := Try.zeroValue9
  t46 := Try.underlying45
  a46 := Try.isAgg45
  z46 := Try.sizeOf45
  v46 := Try.zeroValue45
  t51 := Try.underlying46
  a51 := Try.isAgg46
  z51 := Try.sizeOf46
  v51 := Try.zeroValue46
  t146 := Try.underlying47
  a146 := Try.isAgg47
  z146 := Try.sizeOf47
  v146 := Try.zeroValue47
  g1 := by kernel_rfl
  i3 := by kernel_rfl
  i4 := by kernel_rfl
  i5 := by kernel_rfl
  i9 := by kernel_rfl
  i46 := by kernel_rfl
  i51 := by kernel_rfl
  i146 := by kernel_rfl
  m1 := by kernel_rfl
  s1_3 := fun w h => Go.Proofs.cell_of_shapedOpen_int (zero := #[.int .i64 0]) (t := 3) h (of_decide_eq_true (by kernel_rfl)) (by kernel_rfl) rfl (by kernel_rfl) (by kernel_rfl) Try.underlying3 }
def Try.lays166_ren : Go.Shelf.Ren := ⟨fun | 166 => 15 | 240 => 20 | 276 => 24 | n => n, fun | 70 => 28 | 72 => 30 | 37 => 26 | 5 => 5 | 3 => 3 | 0 => 0 | 4 => 4 | 9 => 9 | 20 => 20 | 75 => 34 | 164 => 41 | 80 => 38 | n => n, fun | n => n⟩
theorem Try.lays166 : Go.Proofs.Lays.n166 Try.prog Try.lays166_ren := {
  mixed := by kernel_rfl
  f166 := Try.func15.trans (congrArg some (by kernel_rfl))
  f240 := Try.func20.trans (congrArg some (by kernel_rfl))
  f276 := Try.func24.trans (congrArg some (by kernel_rfl))
  t0 := Try.underlying0
  a0 := Try.isAgg0
  z0 := Try.sizeOf0
  v0 := Try.zeroValue0
  t3 := Try.underlying3
  a3 := Try.isAgg3
  z3 := Try.sizeOf3
  v3 := Try.zeroValue3
  t4 := Try.underlying4
  a4 := Try.isAgg4
  z4 := Try.sizeOf4
  v4 := Try.zeroValue4
  t9 := Try.underlying9
  a9 := Try.isAgg9
  z9 := Try.sizeOf9
  v9 := Try.zeroValue9
  t20 := Try.underlying20
  a20 := Try.isAgg20
  z20 := Try.sizeOf20
  v20 := Try.zeroValue20
  t37 := Try.underlying26
  a37 := Try.isAgg26
  z37 := Try.sizeOf26
  v37 := Try.zeroValue26
  t70 := Try.underlying28
  a70 := Try.isAgg28
  z70 := Try.sizeOf28
  v70 := Try.zeroValue28
  t72 := Try.underlying30
  a72 := Try.isAgg30
  z72 := Try.sizeOf30
  v72 := Try.zeroValue30
  t75 := Try.underlying34
  a75 := Try.isAgg34
  z75 := Try.sizeOf34
  v75 := Try.zeroValue34
  t164 := Try.underlying41
  a164 := Try.isAgg41
  z164 := Try.sizeOf41
  v164 := Try.zeroValue41 }
theorem Try.Builder_Extra_166 : Builder.Extra Try.prog Try.lays166_ren := {
  sizeBuilder := by kernel_rfl
  liesBuilder := by kernel_rfl
  t5 := Try.underlying5
  a5 := Try.isAgg5
  z5 := Try.sizeOf5
  v5 := Try.zeroValue5
  infoByte := by kernel_rfl
  cellsByte := by kernel_rfl
  sizeByte := by kernel_rfl
  neB5 := by decide }
open Go.RowKit in
theorem Try.Builder_WriteString (B b : Nat) (bs : List Value) (s : ByteArray) (w : World) (h : Lib.IsBuilder 30 5 B b bs w) (hlen : bs.length + s.size ≤ 140737488355328) (hBw : B ≤ w.heap.size) :
    Calls Try.prog 15 #[.pointer (some ⟨b, 0, none⟩), .string s] w fun e w' => e = .returned (.tuple #[.int .i64 s.size, .nilIface]) ∧ (Lib.BuilderAt 30 5 B b (.pointer (some ⟨b, 0, none⟩)) (bs ++ Lib.strCells s) w' ∧ Below B w w') := Any.Builder_WriteString Try.lays166 Try.Builder_Extra_166 B b bs s w h hlen hBw
def Try.lays167_ren : Go.Shelf.Ren := ⟨fun | 167 => 16 | 240 => 20 | 276 => 24 | n => n, fun | 70 => 28 | 72 => 30 | 37 => 26 | 5 => 5 | 3 => 3 | 0 => 0 | 4 => 4 | 9 => 9 | 20 => 20 | 75 => 34 | 164 => 41 | 80 => 38 | n => n, fun | n => n⟩
theorem Try.lays167 : Go.Proofs.Lays.n167 Try.prog Try.lays167_ren := {
  mixed := by kernel_rfl
  f167 := Try.func16.trans (congrArg some (by kernel_rfl))
  f240 := Try.func20.trans (congrArg some (by kernel_rfl))
  f276 := Try.func24.trans (congrArg some (by kernel_rfl))
  t0 := Try.underlying0
  a0 := Try.isAgg0
  z0 := Try.sizeOf0
  v0 := Try.zeroValue0
  t4 := Try.underlying4
  a4 := Try.isAgg4
  z4 := Try.sizeOf4
  v4 := Try.zeroValue4
  t5 := Try.underlying5
  a5 := Try.isAgg5
  z5 := Try.sizeOf5
  v5 := Try.zeroValue5
  t9 := Try.underlying9
  a9 := Try.isAgg9
  z9 := Try.sizeOf9
  v9 := Try.zeroValue9
  t20 := Try.underlying20
  a20 := Try.isAgg20
  z20 := Try.sizeOf20
  v20 := Try.zeroValue20
  t37 := Try.underlying26
  a37 := Try.isAgg26
  z37 := Try.sizeOf26
  v37 := Try.zeroValue26
  t70 := Try.underlying28
  a70 := Try.isAgg28
  z70 := Try.sizeOf28
  v70 := Try.zeroValue28
  t72 := Try.underlying30
  a72 := Try.isAgg30
  z72 := Try.sizeOf30
  v72 := Try.zeroValue30
  t75 := Try.underlying34
  a75 := Try.isAgg34
  z75 := Try.sizeOf34
  v75 := Try.zeroValue34
  t164 := Try.underlying41
  a164 := Try.isAgg41
  z164 := Try.sizeOf41
  v164 := Try.zeroValue41 }
theorem Try.Builder_Extra_167 : Builder.Extra Try.prog Try.lays167_ren := {
  sizeBuilder := by kernel_rfl
  liesBuilder := by kernel_rfl
  t5 := Try.underlying5
  a5 := Try.isAgg5
  z5 := Try.sizeOf5
  v5 := Try.zeroValue5
  infoByte := by kernel_rfl
  cellsByte := by kernel_rfl
  sizeByte := by kernel_rfl
  neB5 := by decide }
open Go.RowKit in
theorem Try.Builder_WriteByte (B b : Nat) (bs : List Value) (c : Int) (w : World) (h : Lib.IsBuilder 30 5 B b bs w) (hlen : bs.length + 1 ≤ 140737488355328) (hBw : B ≤ w.heap.size) :
    Calls Try.prog 16 #[.pointer (some ⟨b, 0, none⟩), .int .u8 c] w fun e w' => e = .returned .nilIface ∧ (Lib.BuilderAt 30 5 B b (.pointer (some ⟨b, 0, none⟩)) (bs ++ [.int .u8 c]) w' ∧ Below B w w') := Any.Builder_WriteByte Try.lays167 Try.Builder_Extra_167 B b bs c w h hlen hBw
end Go.Proofs
