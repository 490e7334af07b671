/-
  The shelf's contracts at this seat's dump, in plain words, as the kit's two tools wrote them for this program (lay-shelf.mjs, then lay-plain.mjs); the remarks struck, the module renamed.
-/
import Derived.Shelf.Strings.Builder1
import Derived.Shelf.Strings.Builder2
import Derived.Shelf.Strings.OnBuilder
import Derived.Shelf.Slices.Turned
import Derived.Test.YbulkbftsFmtProg
namespace Go.Proofs
open Go.Shelf
def Ybaf.lays169_ren : Go.Shelf.Ren := ⟨fun | 169 => 18 | n => n, fun | 70 => 46 | 9 => 9 | 0 => 0 | 72 => 48 | 37 => 22 | 127 => 55 | 3 => 3 | 5 => 5 | n => n, fun | n => n⟩
theorem Ybaf.lays169 : Go.Proofs.Lays.n169 Ybaf.prog Ybaf.lays169_ren := {
  mixed := by kernel_rfl
  f169 := Ybaf.func18.trans (congrArg some (by kernel_rfl))
  t0 := Ybaf.underlying0
  a0 := Ybaf.isAgg0
  z0 := Ybaf.sizeOf0
  v0 := Ybaf.zeroValue0
  t3 := Ybaf.underlying3
  a3 := Ybaf.isAgg3
  z3 := Ybaf.sizeOf3
  v3 := Ybaf.zeroValue3
  t9 := Ybaf.underlying9
  a9 := Ybaf.isAgg9
  z9 := Ybaf.sizeOf9
  v9 := Ybaf.zeroValue9
  t37 := Ybaf.underlying22
  a37 := Ybaf.isAgg22
  z37 := Ybaf.sizeOf22
  v37 := Ybaf.zeroValue22
  t70 := Ybaf.underlying46
  a70 := Ybaf.isAgg46
  z70 := Ybaf.sizeOf46
  v70 := Ybaf.zeroValue46
  t72 := Ybaf.underlying48
  a72 := Ybaf.isAgg48
  z72 := Ybaf.sizeOf48
  v72 := Ybaf.zeroValue48
  t127 := Ybaf.underlying55
  a127 := Ybaf.isAgg55
  z127 := Ybaf.sizeOf55
  v127 := Ybaf.zeroValue55 }
theorem Ybaf.Builder_Extra_169 : Builder.Extra Ybaf.prog Ybaf.lays169_ren := {
  sizeBuilder := by kernel_rfl
  liesBuilder := by kernel_rfl
  t5 := Ybaf.underlying5
  a5 := Ybaf.isAgg5
  z5 := Ybaf.sizeOf5
  v5 := Ybaf.zeroValue5
  infoByte := by kernel_rfl
  cellsByte := by kernel_rfl
  sizeByte := by kernel_rfl
  neB5 := by decide }
open Go.RowKit in
theorem Ybaf.Builder_String (B b : Nat) (l : List UInt8) (w : World) (h : Lib.IsBuilder 48 5 B b (Lib.byteCells l) w) (h0 : l ≠ []) :
    Calls Ybaf.prog 18 #[.pointer (some ⟨b, 0, none⟩)] w fun e w' => e = .returned (.string ⟨l.toArray⟩) ∧ Below B w w' := Any.Builder_String Ybaf.lays169 Ybaf.Builder_Extra_169 B b l w h h0
open Go.RowKit in
theorem Ybaf.Builder_String_empty (B b : Nat) (w : World) (h : Lib.IsBuilder 48 5 B b [] w) (hBw : B ≤ w.heap.size) :
    Calls Ybaf.prog 18 #[.pointer (some ⟨b, 0, none⟩)] w fun e w' => e = .returned (.string ⟨#[]⟩) ∧ Below B w w' := Any.Builder_String_empty Ybaf.lays169 Ybaf.Builder_Extra_169 B b w h hBw
open Go.RowKit in
theorem Ybaf.Builder_String_any (B b : Nat) (l : List UInt8) (w : World) (h : Lib.IsBuilder 48 5 B b (Lib.byteCells l) w) (hBw : B ≤ w.heap.size) :
    Calls Ybaf.prog 18 #[.pointer (some ⟨b, 0, none⟩)] w fun e w' => e = .returned (.string ⟨l.toArray⟩) ∧ Below B w w' := Any.Builder_String_any Ybaf.lays169 Ybaf.Builder_Extra_169 B b l w h hBw
def Ybaf.lays241_ren : Go.Shelf.Ren := ⟨fun | 241 => 20 | 277 => 22 | n => n, fun | 70 => 46 | 3 => 3 | 0 => 0 | 72 => 48 | 37 => 22 | 5 => 5 | n => n, fun | n => n⟩
theorem Ybaf.lays241 : Go.Proofs.Lays.n241 Ybaf.prog Ybaf.lays241_ren := {
  mixed := by kernel_rfl
  f241 := Ybaf.func20.trans (congrArg some (by kernel_rfl))
  f277 := Ybaf.func22.trans (congrArg some (by kernel_rfl))
  t0 := Ybaf.underlying0
  a0 := Ybaf.isAgg0
  z0 := Ybaf.sizeOf0
  v0 := Ybaf.zeroValue0
  t3 := Ybaf.underlying3
  a3 := Ybaf.isAgg3
  z3 := Ybaf.sizeOf3
  v3 := Ybaf.zeroValue3
  t37 := Ybaf.underlying22
  a37 := Ybaf.isAgg22
  z37 := Ybaf.sizeOf22
  v37 := Ybaf.zeroValue22
  t70 := Ybaf.underlying46
  a70 := Ybaf.isAgg46
  z70 := Ybaf.sizeOf46
  v70 := Ybaf.zeroValue46
  t72 := Ybaf.underlying48
  a72 := Ybaf.isAgg48
  z72 := Ybaf.sizeOf48
  v72 := Ybaf.zeroValue48 }
theorem Ybaf.Builder_Extra_241 : Builder.Extra Ybaf.prog Ybaf.lays241_ren := {
  sizeBuilder := by kernel_rfl
  liesBuilder := by kernel_rfl
  t5 := Ybaf.underlying5
  a5 := Ybaf.isAgg5
  z5 := Ybaf.sizeOf5
  v5 := Ybaf.zeroValue5
  infoByte := by kernel_rfl
  cellsByte := by kernel_rfl
  sizeByte := by kernel_rfl
  neB5 := by decide }
open Go.RowKit in
theorem Ybaf.Builder_grow_fresh (B b n : Nat) (w : World) (hB : B ≤ b) (hbk : w.heap[b]? = some (.cells #[.pointer (some ⟨b, 0, none⟩), .slice none 0 0] 48 (0, 0))) (hBw : B ≤ w.heap.size) (hn : n ≤ 281474976710656) :
    Calls Ybaf.prog 20 #[.pointer (some ⟨b, 0, none⟩), .int .i64 n] w fun e w' => e = .returned (.tuple #[]) ∧ (Lib.BuilderAt 48 5 B b (.pointer (some ⟨b, 0, none⟩)) [] w' ∧ Below B w w') := Any.Builder_grow_fresh Ybaf.lays241 Ybaf.Builder_Extra_241 B b n w hB hbk hBw hn
def Ybaf.lays165_ren : Go.Shelf.Ren := ⟨fun | 165 => 16 | 240 => 19 | 241 => 20 | 276 => 21 | 277 => 22 | n => n, fun | 70 => 46 | 3 => 3 | 0 => 0 | 4 => 4 | 9 => 9 | 20 => 20 | 72 => 48 | 37 => 22 | 164 => 56 | 5 => 5 | n => n, fun | n => n⟩
theorem Ybaf.lays165 : Go.Proofs.Lays.n165 Ybaf.prog Ybaf.lays165_ren := {
  mixed := by kernel_rfl
  f165 := Ybaf.func16.trans (congrArg some (by kernel_rfl))
  f240 := Ybaf.func19.trans (congrArg some (by kernel_rfl))
  f241 := Ybaf.func20.trans (congrArg some (by kernel_rfl))
  f276 := Ybaf.func21.trans (congrArg some (by kernel_rfl))
  f277 := Ybaf.func22.trans (congrArg some (by kernel_rfl))
  t0 := Ybaf.underlying0
  a0 := Ybaf.isAgg0
  z0 := Ybaf.sizeOf0
  v0 := Ybaf.zeroValue0
  t3 := Ybaf.underlying3
  a3 := Ybaf.isAgg3
  z3 := Ybaf.sizeOf3
  v3 := Ybaf.zeroValue3
  t4 := Ybaf.underlying4
  a4 := Ybaf.isAgg4
  z4 := Ybaf.sizeOf4
  v4 := Ybaf.zeroValue4
  t9 := Ybaf.underlying9
  a9 := Ybaf.isAgg9
  z9 := Ybaf.sizeOf9
  v9 := Ybaf.zeroValue9
  t20 := Ybaf.underlying20
  a20 := Ybaf.isAgg20
  z20 := Ybaf.sizeOf20
  v20 := Ybaf.zeroValue20
  t37 := Ybaf.underlying22
  a37 := Ybaf.isAgg22
  z37 := Ybaf.sizeOf22
  v37 := Ybaf.zeroValue22
  t70 := Ybaf.underlying46
  a70 := Ybaf.isAgg46
  z70 := Ybaf.sizeOf46
  v70 := Ybaf.zeroValue46
  t72 := Ybaf.underlying48
  a72 := Ybaf.isAgg48
  z72 := Ybaf.sizeOf48
  v72 := Ybaf.zeroValue48
  t164 := Ybaf.underlying56
  a164 := Ybaf.isAgg56
  z164 := Ybaf.sizeOf56
  v164 := Ybaf.zeroValue56 }
theorem Ybaf.Builder_Extra_165 : Builder.Extra Ybaf.prog Ybaf.lays165_ren := {
  sizeBuilder := by kernel_rfl
  liesBuilder := by kernel_rfl
  t5 := Ybaf.underlying5
  a5 := Ybaf.isAgg5
  z5 := Ybaf.sizeOf5
  v5 := Ybaf.zeroValue5
  infoByte := by kernel_rfl
  cellsByte := by kernel_rfl
  sizeByte := by kernel_rfl
  neB5 := by decide }
open Go.RowKit in
theorem Ybaf.Builder_Grow_fresh (B b n : Nat) (w : World) (hB : B ≤ b) (hbk : w.heap[b]? = some (.cells #[.pointer none, .slice none 0 0] 48 (0, 0))) (hBw : B ≤ w.heap.size) (hn : n ≤ 281474976710656) :
    Calls Ybaf.prog 16 #[.pointer (some ⟨b, 0, none⟩), .int .i64 n] w fun e w' => e = .returned (.tuple #[]) ∧ (Lib.BuilderAt 48 5 B b (.pointer (some ⟨b, 0, none⟩)) [] w' ∧ Below B w w') := Any.Builder_Grow_fresh Ybaf.lays165 Ybaf.Builder_Extra_165 B b n w hB hbk hBw hn
def Ybaf.lays156_ren : Go.Shelf.Ren := ⟨fun | 156 => 12 | 165 => 16 | 166 => 17 | 169 => 18 | 240 => 19 | 241 => 20 | 276 => 21 | 277 => 22 | n => n, fun | 31 => 23 | 9 => 9 | 3 => 3 | 4 => 4 | 0 => 0 | 20 => 20 | 72 => 48 | 76 => 50 | 70 => 46 | 37 => 22 | 75 => 27 | 127 => 55 | 164 => 56 | 5 => 5 | 80 => 36 | n => n, fun | n => n⟩
theorem Ybaf.lays156 : Go.Proofs.Lays.n156 Ybaf.prog Ybaf.lays156_ren := {
  mixed := by kernel_rfl
  f156 := Ybaf.func12.trans (congrArg some (by kernel_rfl))
  f165 := Ybaf.func16.trans (congrArg some (by kernel_rfl))
  f166 := Ybaf.func17.trans (congrArg some (by kernel_rfl))
  f169 := Ybaf.func18.trans (congrArg some (by kernel_rfl))
  f240 := Ybaf.func19.trans (congrArg some (by kernel_rfl))
  f241 := Ybaf.func20.trans (congrArg some (by kernel_rfl))
  f276 := Ybaf.func21.trans (congrArg some (by kernel_rfl))
  f277 := Ybaf.func22.trans (congrArg some (by kernel_rfl))
  t0 := Ybaf.underlying0
  a0 := Ybaf.isAgg0
  z0 := Ybaf.sizeOf0
  v0 := Ybaf.zeroValue0
  t3 := Ybaf.underlying3
  a3 := Ybaf.isAgg3
  z3 := Ybaf.sizeOf3
  v3 := Ybaf.zeroValue3
  t4 := Ybaf.underlying4
  a4 := Ybaf.isAgg4
  z4 := Ybaf.sizeOf4
  v4 := Ybaf.zeroValue4
  t9 := Ybaf.underlying9
  a9 := Ybaf.isAgg9
  z9 := Ybaf.sizeOf9
  v9 := Ybaf.zeroValue9
  t20 := Ybaf.underlying20
  a20 := Ybaf.isAgg20
  z20 := Ybaf.sizeOf20
  v20 := Ybaf.zeroValue20
  t31 := Ybaf.underlying23
  a31 := Ybaf.isAgg23
  z31 := Ybaf.sizeOf23
  v31 := Ybaf.zeroValue23
  t37 := Ybaf.underlying22
  a37 := Ybaf.isAgg22
  z37 := Ybaf.sizeOf22
  v37 := Ybaf.zeroValue22
  t70 := Ybaf.underlying46
  a70 := Ybaf.isAgg46
  z70 := Ybaf.sizeOf46
  v70 := Ybaf.zeroValue46
  t72 := Ybaf.underlying48
  a72 := Ybaf.isAgg48
  z72 := Ybaf.sizeOf48
  v72 := Ybaf.zeroValue48
  t75 := Ybaf.underlying27
  a75 := Ybaf.isAgg27
  z75 := Ybaf.sizeOf27
  v75 := Ybaf.zeroValue27
  t76 := Ybaf.underlying50
  a76 := Ybaf.isAgg50
  z76 := Ybaf.sizeOf50
  v76 := Ybaf.zeroValue50
  t127 := Ybaf.underlying55
  a127 := Ybaf.isAgg55
  z127 := Ybaf.sizeOf55
  v127 := Ybaf.zeroValue55
  t164 := Ybaf.underlying56
  a164 := Ybaf.isAgg56
  z164 := Ybaf.sizeOf56
  v164 := Ybaf.zeroValue56 }
theorem Ybaf.Builder_Extra_156 : Builder.Extra Ybaf.prog Ybaf.lays156_ren := {
  sizeBuilder := by kernel_rfl
  liesBuilder := by kernel_rfl
  t5 := Ybaf.underlying5
  a5 := Ybaf.isAgg5
  z5 := Ybaf.sizeOf5
  v5 := Ybaf.zeroValue5
  infoByte := by kernel_rfl
  cellsByte := by kernel_rfl
  sizeByte := by kernel_rfl
  neB5 := by decide }
open Go.RowKit in
theorem Ybaf.strings_Join_none (a : Option Addr) (c : Nat) (sep : ByteArray) (w : World) :
    Calls Ybaf.prog 12 #[.slice a 0 c, .string sep] w fun e w' => e = .returned (.string ⟨#[]⟩) ∧ w' = w := Any.strings_Join_none Ybaf.lays156 Ybaf.Builder_Extra_156 a c sep w
open Go.RowKit in
theorem Ybaf.strings_Join (bk o c : Nat) (xs : List ByteArray) (sep : ByteArray) (w : World) (hcells : ∀ (j : Nat) x, xs[j]? = some x → w.cell? ⟨bk, o + j, none⟩ = some (.string x)) (hbk : bk < w.heap.size) (hN : xs.length ≤ 140737488355328) (hcap : xs.length ≤ c) (hlen : (Lib.join (xs.map (·.data.toList)) sep.data.toList).length ≤ 140737488355328) :
    Calls Ybaf.prog 12 #[.slice (some ⟨bk, o, none⟩) xs.length c, .string sep] w fun e w' => e = .returned (.string ⟨(Lib.join (xs.map (·.data.toList)) sep.data.toList).toArray⟩) ∧ Below w.heap.size w w' := Any.strings_Join Ybaf.lays156 Ybaf.Builder_Extra_156 bk o c xs sep w hcells hbk hN hcap hlen
def Ybaf.lays109_ren : Go.Shelf.Ren := ⟨fun | 109 => 10 | n => n, fun | 31 => 23 | 9 => 9 | 3 => 3 | 0 => 0 | 4 => 4 | n => n, fun | n => n⟩
theorem Ybaf.lays109 : Go.Proofs.Lays.n109 Ybaf.prog Ybaf.lays109_ren := {
  mixed := by kernel_rfl
  f109 := Ybaf.func10.trans (congrArg some (by kernel_rfl))
  t0 := Ybaf.underlying0
  a0 := Ybaf.isAgg0
  z0 := Ybaf.sizeOf0
  v0 := Ybaf.zeroValue0
  t3 := Ybaf.underlying3
  a3 := Ybaf.isAgg3
  z3 := Ybaf.sizeOf3
  v3 := Ybaf.zeroValue3
  t4 := Ybaf.underlying4
  a4 := Ybaf.isAgg4
  z4 := Ybaf.sizeOf4
  v4 := Ybaf.zeroValue4
  t9 := Ybaf.underlying9
  a9 := Ybaf.isAgg9
  z9 := Ybaf.sizeOf9
  v9 := Ybaf.zeroValue9
  t31 := Ybaf.underlying23
  a31 := Ybaf.isAgg23
  z31 := Ybaf.sizeOf23
  v31 := Ybaf.zeroValue23 }
open Go.Lib in
theorem Ybaf.slices_Index_string (b off n c : Nat) (zs : List ByteArray) (x : ByteArray) (w : World) (hz : n ≤ zs.length) (hbig : n ≤ 9223372036854775807) (hc : ∀ j, j < zs.length → w.cell? ⟨b, off + j, none⟩ = some (.string (zs.getD j ByteArray.empty))) :
    Calls Ybaf.prog 10 #[.slice (some ⟨b, off, none⟩) n c, .string x] w fun e w' => e = .returned (.int .i64 (Lib.idxOfS (zs.take n) x)) ∧ w' = w := Any.slices_Index_string Ybaf.lays109 b off n c zs x w hz hbig hc
open Go.Lib in
theorem Ybaf.slices_Index_string_empty (a : Option Addr) (c : Nat) (x : ByteArray) (w : World) :
    Calls Ybaf.prog 10 #[.slice a 0 c, .string x] w fun e w' => e = .returned (.int .i64 (Lib.idxOfS [] x)) ∧ w' = w := Any.slices_Index_string_empty Ybaf.lays109 a c x w
end Go.Proofs
