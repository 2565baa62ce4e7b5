/-
  DERIVED: THE SHELF's CONTRACTS AT THIS DUMP, IN PLAIN WORDS (tools/lay-plain.mjs out of 'YbazShelf.lean', which tools/lay-shelf.mjs wrote): THE SAME DECLARATIONS UNDER THE SAME NAMES: 'import', 'namespace', 'open', 'def', 'theorem' AND NOTHING ELSE: no command of the shelf's: FOR A HAND-IN. Each laying: the table of numbers ('.._ren') and one theorem, a field a fact of the dump's own or the kernel's comparison; each contract: ONE APPLICATION.
-/
import Derived.Shelf.Strings.Builder1
import Derived.Shelf.Strings.Builder2
import Derived.Shelf.Strings.OnBuilder
import Derived.Shelf.Small.Bits
import Derived.Shelf.Small.Strs
import Derived.Shelf.Small.Wraps
import Derived.Shelf.Strconv.Itoa0
import Derived.Shelf.Strconv.Itoa1
import Derived.Shelf.LaysM
import Derived.Shelf.Strconv.Itoa2
import Derived.Shelf.Strconv.Itoa3
import Derived.Shelf.Strings.Prefix
import Derived.Test.YbulkcvxmGreatFmtProg
namespace Go.Proofs
open Go.Shelf
def Ybaz.lays169_ren : Go.Shelf.Ren := ⟨fun | 169 => 26 | n => n, fun | 70 => 89 | 9 => 9 | 0 => 0 | 72 => 91 | 37 => 24 | 127 => 122 | 3 => 3 | 5 => 5 | n => n, fun | n => n⟩
theorem Ybaz.lays169 : Go.Proofs.Lays.n169 Ybaz.prog Ybaz.lays169_ren := {
  mixed := by kernel_rfl
  f169 := Ybaz.func26.trans (congrArg some (by kernel_rfl))
  t0 := Ybaz.underlying0
  a0 := Ybaz.isAgg0
  z0 := Ybaz.sizeOf0
  v0 := Ybaz.zeroValue0
  t3 := Ybaz.underlying3
  a3 := Ybaz.isAgg3
  z3 := Ybaz.sizeOf3
  v3 := Ybaz.zeroValue3
  t9 := Ybaz.underlying9
  a9 := Ybaz.isAgg9
  z9 := Ybaz.sizeOf9
  v9 := Ybaz.zeroValue9
  t37 := Ybaz.underlying24
  a37 := Ybaz.isAgg24
  z37 := Ybaz.sizeOf24
  v37 := Ybaz.zeroValue24
  t70 := Ybaz.underlying89
  a70 := Ybaz.isAgg89
  z70 := Ybaz.sizeOf89
  v70 := Ybaz.zeroValue89
  t72 := Ybaz.underlying91
  a72 := Ybaz.isAgg91
  z72 := Ybaz.sizeOf91
  v72 := Ybaz.zeroValue91
  t127 := Ybaz.underlying122
  a127 := Ybaz.isAgg122
  z127 := Ybaz.sizeOf122
  v127 := Ybaz.zeroValue122 }
theorem Ybaz.Builder_Extra_169 : Builder.Extra Ybaz.prog Ybaz.lays169_ren := {
  sizeBuilder := by kernel_rfl
  liesBuilder := by kernel_rfl
  t5 := Ybaz.underlying5
  a5 := Ybaz.isAgg5
  z5 := Ybaz.sizeOf5
  v5 := Ybaz.zeroValue5
  infoByte := by kernel_rfl
  cellsByte := by kernel_rfl
  sizeByte := by kernel_rfl
  neB5 := by decide }
open Go.RowKit in
/-- (*strings.Builder).String: "String returns the accumulated string.": OF A BUILDER THAT HOLDS AT LEAST ONE BYTE. ✋ THE MODEL FREEZES THOSE BYTES IN THE BUFFER (unsafe.String): a later write INTO them ends the model's run without an answer; a later append BEHIND them goes on. The statement's order of evaluation is drawn: one draw. (LAID: no walk: one application.) -/
theorem Ybaz.Builder_String (B b : Nat) (l : List UInt8) (w : World) (h : Lib.IsBuilder 91 5 B b (Lib.byteCells l) w) (h0 : l ≠ []) :
    Calls Ybaz.prog 26 #[.pointer (some ⟨b, 0, none⟩)] w fun e w' => e = .returned (.string ⟨l.toArray⟩) ∧ Below B w w' := Any.Builder_String Ybaz.lays169 Ybaz.Builder_Extra_169 B b l w h h0
open Go.RowKit in
/-- (*strings.Builder).String OF A BUILDER THAT HOLDS NO BYTE: the empty string. (Its buffer is nil, or a row of which it has taken nothing yet; where that row has NO capacity the model lays one new block for unsafe.SliceData's 'some address'.) One draw. (LAID: no walk: one application.) -/
theorem Ybaz.Builder_String_empty (B b : Nat) (w : World) (h : Lib.IsBuilder 91 5 B b [] w) (hBw : B ≤ w.heap.size) :
    Calls Ybaz.prog 26 #[.pointer (some ⟨b, 0, none⟩)] w fun e w' => e = .returned (.string ⟨#[]⟩) ∧ Below B w w' := Any.Builder_String_empty Ybaz.lays169 Ybaz.Builder_Extra_169 B b w h hBw
open Go.RowKit in
/-- (*strings.Builder).String: "String returns the accumulated string.": WHATEVER THE BUILDER HOLDS. (LAID: no walk: one application.) -/
theorem Ybaz.Builder_String_any (B b : Nat) (l : List UInt8) (w : World) (h : Lib.IsBuilder 91 5 B b (Lib.byteCells l) w) (hBw : B ≤ w.heap.size) :
    Calls Ybaz.prog 26 #[.pointer (some ⟨b, 0, none⟩)] w fun e w' => e = .returned (.string ⟨l.toArray⟩) ∧ Below B w w' := Any.Builder_String_any Ybaz.lays169 Ybaz.Builder_Extra_169 B b l w h hBw
def Ybaz.lays241_ren : Go.Shelf.Ren := ⟨fun | 241 => 50 | 277 => 68 | n => n, fun | 70 => 89 | 3 => 3 | 0 => 0 | 72 => 91 | 37 => 24 | 5 => 5 | n => n, fun | n => n⟩
theorem Ybaz.lays241 : Go.Proofs.Lays.n241 Ybaz.prog Ybaz.lays241_ren := {
  mixed := by kernel_rfl
  f241 := Ybaz.func50.trans (congrArg some (by kernel_rfl))
  f277 := Ybaz.func68.trans (congrArg some (by kernel_rfl))
  t0 := Ybaz.underlying0
  a0 := Ybaz.isAgg0
  z0 := Ybaz.sizeOf0
  v0 := Ybaz.zeroValue0
  t3 := Ybaz.underlying3
  a3 := Ybaz.isAgg3
  z3 := Ybaz.sizeOf3
  v3 := Ybaz.zeroValue3
  t37 := Ybaz.underlying24
  a37 := Ybaz.isAgg24
  z37 := Ybaz.sizeOf24
  v37 := Ybaz.zeroValue24
  t70 := Ybaz.underlying89
  a70 := Ybaz.isAgg89
  z70 := Ybaz.sizeOf89
  v70 := Ybaz.zeroValue89
  t72 := Ybaz.underlying91
  a72 := Ybaz.isAgg91
  z72 := Ybaz.sizeOf91
  v72 := Ybaz.zeroValue91 }
theorem Ybaz.Builder_Extra_241 : Builder.Extra Ybaz.prog Ybaz.lays241_ren := {
  sizeBuilder := by kernel_rfl
  liesBuilder := by kernel_rfl
  t5 := Ybaz.underlying5
  a5 := Ybaz.isAgg5
  z5 := Ybaz.sizeOf5
  v5 := Ybaz.zeroValue5
  infoByte := by kernel_rfl
  cellsByte := by kernel_rfl
  sizeByte := by kernel_rfl
  neB5 := by decide }
open Go.RowKit in
/-- (*strings.Builder).grow (no doc but "grow copies the buffer to a new, larger buffer so that there are at least n bytes of capacity beyond len(b.buf)."): AT A BUILDER WITHOUT A BUFFER: a new row of whatever bytes for its buffer, none of them its own yet. Three draws. (LAID: no walk: one application.) -/
theorem Ybaz.Builder_grow_fresh (B b n : Nat) (w : World) (hB : B ≤ b) (hbk : w.heap[b]? = some (.cells #[.pointer (some ⟨b, 0, none⟩), .slice none 0 0] 91 (0, 0))) (hBw : B ≤ w.heap.size) (hn : n ≤ 281474976710656) :
    Calls Ybaz.prog 50 #[.pointer (some ⟨b, 0, none⟩), .int .i64 n] w fun e w' => e = .returned (.tuple #[]) ∧ (Lib.BuilderAt 91 5 B b (.pointer (some ⟨b, 0, none⟩)) [] w' ∧ Below B w w') := Any.Builder_grow_fresh Ybaz.lays241 Ybaz.Builder_Extra_241 B b n w hB hbk hBw hn
def Ybaz.lays165_ren : Go.Shelf.Ren := ⟨fun | 165 => 24 | 240 => 49 | 241 => 50 | 276 => 67 | 277 => 68 | n => n, fun | 70 => 89 | 3 => 3 | 0 => 0 | 4 => 4 | 9 => 9 | 20 => 20 | 72 => 91 | 37 => 24 | 164 => 139 | 5 => 5 | n => n, fun | n => n⟩
theorem Ybaz.lays165 : Go.Proofs.Lays.n165 Ybaz.prog Ybaz.lays165_ren := {
  mixed := by kernel_rfl
  f165 := Ybaz.func24.trans (congrArg some (by kernel_rfl))
  f240 := Ybaz.func49.trans (congrArg some (by kernel_rfl))
  f241 := Ybaz.func50.trans (congrArg some (by kernel_rfl))
  f276 := Ybaz.func67.trans (congrArg some (by kernel_rfl))
  f277 := Ybaz.func68.trans (congrArg some (by kernel_rfl))
  t0 := Ybaz.underlying0
  a0 := Ybaz.isAgg0
  z0 := Ybaz.sizeOf0
  v0 := Ybaz.zeroValue0
  t3 := Ybaz.underlying3
  a3 := Ybaz.isAgg3
  z3 := Ybaz.sizeOf3
  v3 := Ybaz.zeroValue3
  t4 := Ybaz.underlying4
  a4 := Ybaz.isAgg4
  z4 := Ybaz.sizeOf4
  v4 := Ybaz.zeroValue4
  t9 := Ybaz.underlying9
  a9 := Ybaz.isAgg9
  z9 := Ybaz.sizeOf9
  v9 := Ybaz.zeroValue9
  t20 := Ybaz.underlying20
  a20 := Ybaz.isAgg20
  z20 := Ybaz.sizeOf20
  v20 := Ybaz.zeroValue20
  t37 := Ybaz.underlying24
  a37 := Ybaz.isAgg24
  z37 := Ybaz.sizeOf24
  v37 := Ybaz.zeroValue24
  t70 := Ybaz.underlying89
  a70 := Ybaz.isAgg89
  z70 := Ybaz.sizeOf89
  v70 := Ybaz.zeroValue89
  t72 := Ybaz.underlying91
  a72 := Ybaz.isAgg91
  z72 := Ybaz.sizeOf91
  v72 := Ybaz.zeroValue91
  t164 := Ybaz.underlying139
  a164 := Ybaz.isAgg139
  z164 := Ybaz.sizeOf139
  v164 := Ybaz.zeroValue139 }
theorem Ybaz.Builder_Extra_165 : Builder.Extra Ybaz.prog Ybaz.lays165_ren := {
  sizeBuilder := by kernel_rfl
  liesBuilder := by kernel_rfl
  t5 := Ybaz.underlying5
  a5 := Ybaz.isAgg5
  z5 := Ybaz.sizeOf5
  v5 := Ybaz.zeroValue5
  infoByte := by kernel_rfl
  cellsByte := by kernel_rfl
  sizeByte := by kernel_rfl
  neB5 := by decide }
open Go.RowKit in
/-- (*strings.Builder).Grow AT A BUILDER THAT HAS NOT BEEN WRITTEN ('var b strings.Builder; b.Grow(n)'): "Grow grows b's capacity, if necessary, to guarantee space for another n bytes.": it holds no byte behind it as before it. (LAID: no walk: one application.) -/
theorem Ybaz.Builder_Grow_fresh (B b n : Nat) (w : World) (hB : B ≤ b) (hbk : w.heap[b]? = some (.cells #[.pointer none, .slice none 0 0] 91 (0, 0))) (hBw : B ≤ w.heap.size) (hn : n ≤ 281474976710656) :
    Calls Ybaz.prog 24 #[.pointer (some ⟨b, 0, none⟩), .int .i64 n] w fun e w' => e = .returned (.tuple #[]) ∧ (Lib.BuilderAt 91 5 B b (.pointer (some ⟨b, 0, none⟩)) [] w' ∧ Below B w w') := Any.Builder_Grow_fresh Ybaz.lays165 Ybaz.Builder_Extra_165 B b n w hB hbk hBw hn
def Ybaz.lays156_ren : Go.Shelf.Ren := ⟨fun | 156 => 14 | 165 => 24 | 166 => 25 | 169 => 26 | 240 => 49 | 241 => 50 | 276 => 67 | 277 => 68 | n => n, fun | 31 => 48 | 9 => 9 | 3 => 3 | 4 => 4 | 0 => 0 | 20 => 20 | 72 => 91 | 76 => 93 | 70 => 89 | 37 => 24 | 75 => 46 | 127 => 122 | 164 => 139 | 5 => 5 | 80 => 95 | n => n, fun | n => n⟩
theorem Ybaz.lays156 : Go.Proofs.Lays.n156 Ybaz.prog Ybaz.lays156_ren := {
  mixed := by kernel_rfl
  f156 := Ybaz.func14.trans (congrArg some (by kernel_rfl))
  f165 := Ybaz.func24.trans (congrArg some (by kernel_rfl))
  f166 := Ybaz.func25.trans (congrArg some (by kernel_rfl))
  f169 := Ybaz.func26.trans (congrArg some (by kernel_rfl))
  f240 := Ybaz.func49.trans (congrArg some (by kernel_rfl))
  f241 := Ybaz.func50.trans (congrArg some (by kernel_rfl))
  f276 := Ybaz.func67.trans (congrArg some (by kernel_rfl))
  f277 := Ybaz.func68.trans (congrArg some (by kernel_rfl))
  t0 := Ybaz.underlying0
  a0 := Ybaz.isAgg0
  z0 := Ybaz.sizeOf0
  v0 := Ybaz.zeroValue0
  t3 := Ybaz.underlying3
  a3 := Ybaz.isAgg3
  z3 := Ybaz.sizeOf3
  v3 := Ybaz.zeroValue3
  t4 := Ybaz.underlying4
  a4 := Ybaz.isAgg4
  z4 := Ybaz.sizeOf4
  v4 := Ybaz.zeroValue4
  t9 := Ybaz.underlying9
  a9 := Ybaz.isAgg9
  z9 := Ybaz.sizeOf9
  v9 := Ybaz.zeroValue9
  t20 := Ybaz.underlying20
  a20 := Ybaz.isAgg20
  z20 := Ybaz.sizeOf20
  v20 := Ybaz.zeroValue20
  t31 := Ybaz.underlying48
  a31 := Ybaz.isAgg48
  z31 := Ybaz.sizeOf48
  v31 := Ybaz.zeroValue48
  t37 := Ybaz.underlying24
  a37 := Ybaz.isAgg24
  z37 := Ybaz.sizeOf24
  v37 := Ybaz.zeroValue24
  t70 := Ybaz.underlying89
  a70 := Ybaz.isAgg89
  z70 := Ybaz.sizeOf89
  v70 := Ybaz.zeroValue89
  t72 := Ybaz.underlying91
  a72 := Ybaz.isAgg91
  z72 := Ybaz.sizeOf91
  v72 := Ybaz.zeroValue91
  t75 := Ybaz.underlying46
  a75 := Ybaz.isAgg46
  z75 := Ybaz.sizeOf46
  v75 := Ybaz.zeroValue46
  t76 := Ybaz.underlying93
  a76 := Ybaz.isAgg93
  z76 := Ybaz.sizeOf93
  v76 := Ybaz.zeroValue93
  t127 := Ybaz.underlying122
  a127 := Ybaz.isAgg122
  z127 := Ybaz.sizeOf122
  v127 := Ybaz.zeroValue122
  t164 := Ybaz.underlying139
  a164 := Ybaz.isAgg139
  z164 := Ybaz.sizeOf139
  v164 := Ybaz.zeroValue139 }
theorem Ybaz.Builder_Extra_156 : Builder.Extra Ybaz.prog Ybaz.lays156_ren := {
  sizeBuilder := by kernel_rfl
  liesBuilder := by kernel_rfl
  t5 := Ybaz.underlying5
  a5 := Ybaz.isAgg5
  z5 := Ybaz.sizeOf5
  v5 := Ybaz.zeroValue5
  infoByte := by kernel_rfl
  cellsByte := by kernel_rfl
  sizeByte := by kernel_rfl
  neB5 := by decide }
open Go.RowKit in
/-- No element: the empty string; the world is as it was. (Whatever the slice's address and capacity: a nil slice too.) (LAID: no walk: one application.) -/
theorem Ybaz.strings_Join_none (a : Option Addr) (c : Nat) (sep : ByteArray) (w : World) :
    Calls Ybaz.prog 14 #[.slice a 0 c, .string sep] w fun e w' => e = .returned (.string ⟨#[]⟩) ∧ w' = w := Any.strings_Join_none Ybaz.lays156 Ybaz.Builder_Extra_156 a c sep w
open Go.RowKit in
/-- strings.Join: "Join concatenates the elements of its first argument to create a single string. The separator string sep is placed between elements in the resulting string.": HOWEVER MANY ELEMENTS. Below the heap's end the world is as it was. (LAID: no walk: one application.) -/
theorem Ybaz.strings_Join (bk o c : Nat) (xs : List ByteArray) (sep : ByteArray) (w : World) (hcells : ∀ (j : Nat) x, xs[j]? = some x → w.cell? ⟨bk, o + j, none⟩ = some (.string x)) (hbk : bk < w.heap.size) (hN : xs.length ≤ 140737488355328) (hcap : xs.length ≤ c) (hlen : (Lib.join (xs.map (·.data.toList)) sep.data.toList).length ≤ 140737488355328) :
    Calls Ybaz.prog 14 #[.slice (some ⟨bk, o, none⟩) xs.length c, .string sep] w fun e w' => e = .returned (.string ⟨(Lib.join (xs.map (·.data.toList)) sep.data.toList).toArray⟩) ∧ Below w.heap.size w w' := Any.strings_Join Ybaz.lays156 Ybaz.Builder_Extra_156 bk o c xs sep w hcells hbk hN hcap hlen
def Ybaz.lays128_ren : Go.Shelf.Ren := ⟨fun | 128 => 47 | n => n, fun | 51 => 117 | 3 => 3 | 4 => 4 | 46 => 83 | 5 => 5 | 9 => 9 | n => n, fun | n => n⟩
theorem Ybaz.lays128 : Go.Proofs.Lays.n128 Ybaz.prog Ybaz.lays128_ren := {
  mixed := by kernel_rfl
  f128 := Ybaz.func47.trans (congrArg some (by kernel_rfl))
  t3 := Ybaz.underlying3
  a3 := Ybaz.isAgg3
  z3 := Ybaz.sizeOf3
  v3 := Ybaz.zeroValue3
  t4 := Ybaz.underlying4
  a4 := Ybaz.isAgg4
  z4 := Ybaz.sizeOf4
  v4 := Ybaz.zeroValue4
  t5 := Ybaz.underlying5
  a5 := Ybaz.isAgg5
  z5 := Ybaz.sizeOf5
  v5 := Ybaz.zeroValue5
  t9 := Ybaz.underlying9
  a9 := Ybaz.isAgg9
  z9 := Ybaz.sizeOf9
  v9 := Ybaz.zeroValue9
  t46 := Ybaz.underlying83
  a46 := Ybaz.isAgg83
  z46 := Ybaz.sizeOf83
  v46 := Ybaz.zeroValue83
  t51 := Ybaz.underlying117
  a51 := Ybaz.isAgg117
  z51 := Ybaz.sizeOf117
  v51 := Ybaz.zeroValue117 }
/-- bits.Len32: "Len32 returns the minimum number of bits required to represent x; the result is 0 for x == 0.": IT RETURNS 'Lib.bitLen x'; the world is as it was. ('h0', 'h1': x is a uint32.) (LAID: no walk: one application.) -/
theorem Ybaz.bits_Len32 (x : Int) (w : World) (h0 : 0 ≤ x) (h1 : x ≤ 4294967295) :
    Calls Ybaz.prog 47 #[.int .u32 x] w fun e w' => e = .returned (.int .i64 (Lib.bitLen x.toNat)) ∧ w' = w := Any.bits_Len32 Ybaz.lays128 x w h0 h1
def Ybaz.lays125_ren : Go.Shelf.Ren := ⟨fun | 125 => 21 | 128 => 47 | 129 => 48 | n => n, fun | 46 => 83 | 3 => 3 | 51 => 117 | 53 => 30 | 4 => 4 | 5 => 5 | 9 => 9 | n => n, fun | n => n⟩
theorem Ybaz.lays125 : Go.Proofs.Lays.n125 Ybaz.prog Ybaz.lays125_ren := {
  mixed := by kernel_rfl
  f125 := Ybaz.func21.trans (congrArg some (by kernel_rfl))
  f128 := Ybaz.func47.trans (congrArg some (by kernel_rfl))
  f129 := Ybaz.func48.trans (congrArg some (by kernel_rfl))
  t3 := Ybaz.underlying3
  a3 := Ybaz.isAgg3
  z3 := Ybaz.sizeOf3
  v3 := Ybaz.zeroValue3
  t4 := Ybaz.underlying4
  a4 := Ybaz.isAgg4
  z4 := Ybaz.sizeOf4
  v4 := Ybaz.zeroValue4
  t5 := Ybaz.underlying5
  a5 := Ybaz.isAgg5
  z5 := Ybaz.sizeOf5
  v5 := Ybaz.zeroValue5
  t9 := Ybaz.underlying9
  a9 := Ybaz.isAgg9
  z9 := Ybaz.sizeOf9
  v9 := Ybaz.zeroValue9
  t46 := Ybaz.underlying83
  a46 := Ybaz.isAgg83
  z46 := Ybaz.sizeOf83
  v46 := Ybaz.zeroValue83
  t51 := Ybaz.underlying117
  a51 := Ybaz.isAgg117
  z51 := Ybaz.sizeOf117
  v51 := Ybaz.zeroValue117
  t53 := Ybaz.underlying30
  a53 := Ybaz.isAgg30
  z53 := Ybaz.sizeOf30
  v53 := Ybaz.zeroValue30 }
/-- bits.Len: "Len returns the minimum number of bits required to represent x; the result is 0 for x == 0.": IT RETURNS 'Lib.bitLen x'; the world is as it was. (A uint has 64 bits in the model.) ITS CALLEE bits.Len64 IS MET BY ITS OWN CONTRACT OFF THE SHELF (lay that first). (LAID: no walk: one application.) -/
theorem Ybaz.bits_Len (x : Int) (w : World) (h0 : 0 ≤ x) (h1 : x ≤ 18446744073709551615) :
    Calls Ybaz.prog 21 #[.int .u64 x] w fun e w' => e = .returned (.int .i64 (Lib.bitLen x.toNat)) ∧ w' = w := Any.bits_Len Ybaz.lays125 x w h0 h1
def Ybaz.lays213_ren : Go.Shelf.Ren := ⟨fun | 213 => 56 | 265 => 79 | n => n, fun | 9 => 9 | 3 => 3 | n => n, fun | n => n⟩
theorem Ybaz.lays213 : Go.Proofs.Lays.n213 Ybaz.prog Ybaz.lays213_ren := {
  mixed := by kernel_rfl
  f213 := Ybaz.func56.trans (congrArg some (by kernel_rfl))
  f265 := Ybaz.func79.trans (congrArg some (by kernel_rfl))
  t3 := Ybaz.underlying3
  a3 := Ybaz.isAgg3
  z3 := Ybaz.sizeOf3
  v3 := Ybaz.zeroValue3
  t9 := Ybaz.underlying9
  a9 := Ybaz.isAgg9
  z9 := Ybaz.sizeOf9
  v9 := Ybaz.zeroValue9 }
open Go.RowKit in
/-- internal/bytealg.CompareString (what strings.Compare calls): IT RETURNS 'Lib.compareBytes a b'; the world is as it was. (LAID: no walk: one application.) -/
theorem Ybaz.bytealg_CompareString (a b : ByteArray) (w : World) :
    Calls Ybaz.prog 56 #[.string a, .string b] w fun e w' => e = .returned (.int .i64 (Lib.compareBytes a.data.toList b.data.toList)) ∧ w' = w := Any.bytealg_CompareString Ybaz.lays213 a b w
def Ybaz.lays106_ren : Go.Shelf.Ren := ⟨fun | 106 => 34 | 213 => 56 | 265 => 79 | n => n, fun | 9 => 9 | 3 => 3 | n => n, fun | n => n⟩
theorem Ybaz.lays106 : Go.Proofs.Lays.n106 Ybaz.prog Ybaz.lays106_ren := {
  mixed := by kernel_rfl
  f106 := Ybaz.func34.trans (congrArg some (by kernel_rfl))
  f213 := Ybaz.func56.trans (congrArg some (by kernel_rfl))
  f265 := Ybaz.func79.trans (congrArg some (by kernel_rfl))
  t3 := Ybaz.underlying3
  a3 := Ybaz.isAgg3
  z3 := Ybaz.sizeOf3
  v3 := Ybaz.zeroValue3
  t9 := Ybaz.underlying9
  a9 := Ybaz.isAgg9
  z9 := Ybaz.sizeOf9
  v9 := Ybaz.zeroValue9 }
open Go.RowKit in
/-- strings.Compare: "Compare returns an integer comparing two strings lexicographically. The result will be 0 if a == b, -1 if a < b, and +1 if a > b.": IT RETURNS 'Lib.compareBytes a b'; the world is as it was. (LAID: no walk: one application.) -/
theorem Ybaz.strings_Compare (a b : ByteArray) (w : World) :
    Calls Ybaz.prog 34 #[.string a, .string b] w fun e w' => e = .returned (.int .i64 (Lib.compareBytes a.data.toList b.data.toList)) ∧ w' = w := Any.strings_Compare Ybaz.lays106 a b w
def Ybaz.lays211_ren : Go.Shelf.Ren := ⟨fun | 211 => 69 | 207 => 85 | n => n, fun | 9 => 9 | 4 => 4 | 3 => 3 | n => n, fun | n => n⟩
theorem Ybaz.lays211 : Go.Proofs.Lays.n211 Ybaz.prog Ybaz.lays211_ren := {
  mixed := by kernel_rfl
  f207 := Ybaz.func85.trans (congrArg some (by kernel_rfl))
  f211 := Ybaz.func69.trans (congrArg some (by kernel_rfl))
  t3 := Ybaz.underlying3
  a3 := Ybaz.isAgg3
  z3 := Ybaz.sizeOf3
  v3 := Ybaz.zeroValue3
  t4 := Ybaz.underlying4
  a4 := Ybaz.isAgg4
  z4 := Ybaz.sizeOf4
  v4 := Ybaz.zeroValue4
  t9 := Ybaz.underlying9
  a9 := Ybaz.isAgg9
  z9 := Ybaz.sizeOf9
  v9 := Ybaz.zeroValue9 }
open Go.RowKit in
/-- internal/stringslite.CutSuffix (what strings.CutSuffix calls). (LAID: no walk: one application.) -/
theorem Ybaz.stringslite_CutSuffix (s p : ByteArray) (w : World) (hs : s.size ≤ 9223372036854775807) :
    Calls Ybaz.prog 69 #[.string s, .string p] w fun e w' => e = .returned (.tuple #[.string ⟨(Lib.trimSuffix s.data.toList p.data.toList).toArray⟩, .bool (Lib.hasSuffix s.data.toList p.data.toList)]) ∧ w' = w := Any.stringslite_CutSuffix Ybaz.lays211 s p w hs
def Ybaz.lays104_ren : Go.Shelf.Ren := ⟨fun | 104 => 51 | 211 => 69 | 207 => 85 | n => n, fun | 9 => 9 | 4 => 4 | 24 => 62 | 3 => 3 | n => n, fun | n => n⟩
theorem Ybaz.lays104 : Go.Proofs.Lays.n104 Ybaz.prog Ybaz.lays104_ren := {
  mixed := by kernel_rfl
  f104 := Ybaz.func51.trans (congrArg some (by kernel_rfl))
  f207 := Ybaz.func85.trans (congrArg some (by kernel_rfl))
  f211 := Ybaz.func69.trans (congrArg some (by kernel_rfl))
  t3 := Ybaz.underlying3
  a3 := Ybaz.isAgg3
  z3 := Ybaz.sizeOf3
  v3 := Ybaz.zeroValue3
  t4 := Ybaz.underlying4
  a4 := Ybaz.isAgg4
  z4 := Ybaz.sizeOf4
  v4 := Ybaz.zeroValue4
  t9 := Ybaz.underlying9
  a9 := Ybaz.isAgg9
  z9 := Ybaz.sizeOf9
  v9 := Ybaz.zeroValue9
  t24 := Ybaz.underlying62
  a24 := Ybaz.isAgg62
  z24 := Ybaz.sizeOf62
  v24 := Ybaz.zeroValue62 }
open Go.RowKit in
/-- strings.CutSuffix: "CutSuffix returns s without the provided ending suffix string and reports whether it found the suffix. If s doesn't end with suffix, CutSuffix returns s, false. If suffix is the empty string, CutSuffix returns s, true.": IT RETURNS '(Lib.trimSuffix s p, Lib.hasSuffix s p)'; the world is as it was. (LAID: no walk: one application.) -/
theorem Ybaz.strings_CutSuffix (s p : ByteArray) (w : World) (hs : s.size ≤ 9223372036854775807) :
    Calls Ybaz.prog 51 #[.string s, .string p] w fun e w' => e = .returned (.tuple #[.string ⟨(Lib.trimSuffix s.data.toList p.data.toList).toArray⟩, .bool (Lib.hasSuffix s.data.toList p.data.toList)]) ∧ w' = w := Any.strings_CutSuffix Ybaz.lays104 s p w hs
def Ybaz.lays129_ren : Go.Shelf.Ren := ⟨fun | 129 => 48 | n => n, fun | 53 => 30 | 3 => 3 | 4 => 4 | 46 => 83 | 5 => 5 | 9 => 9 | n => n, fun | n => n⟩
theorem Ybaz.lays129 : Go.Proofs.Lays.n129 Ybaz.prog Ybaz.lays129_ren := {
  mixed := by kernel_rfl
  f129 := Ybaz.func48.trans (congrArg some (by kernel_rfl))
  t3 := Ybaz.underlying3
  a3 := Ybaz.isAgg3
  z3 := Ybaz.sizeOf3
  v3 := Ybaz.zeroValue3
  t4 := Ybaz.underlying4
  a4 := Ybaz.isAgg4
  z4 := Ybaz.sizeOf4
  v4 := Ybaz.zeroValue4
  t5 := Ybaz.underlying5
  a5 := Ybaz.isAgg5
  z5 := Ybaz.sizeOf5
  v5 := Ybaz.zeroValue5
  t9 := Ybaz.underlying9
  a9 := Ybaz.isAgg9
  z9 := Ybaz.sizeOf9
  v9 := Ybaz.zeroValue9
  t46 := Ybaz.underlying83
  a46 := Ybaz.isAgg83
  z46 := Ybaz.sizeOf83
  v46 := Ybaz.zeroValue83
  t53 := Ybaz.underlying30
  a53 := Ybaz.isAgg30
  z53 := Ybaz.sizeOf30
  v53 := Ybaz.zeroValue30 }
/-- bits.Len64: "Len64 returns the minimum number of bits required to represent x; the result is 0 for x == 0.": IT RETURNS 'Lib.bitLen x'; the world is as it was. ('h0', 'h1': x is a uint64.) (LAID: no walk: one application.) -/
theorem Ybaz.bits_Len64 (x : Int) (w : World) (h0 : 0 ≤ x) (h1 : x ≤ 18446744073709551615) :
    Calls Ybaz.prog 48 #[.int .u64 x] w fun e w' => e = .returned (.int .i64 (Lib.bitLen x.toNat)) ∧ w' = w := Any.bits_Len64 Ybaz.lays129 x w h0 h1
def Ybaz.lays317_ren : Go.Shelf.Ren := ⟨fun | 317 => 80 | n => n, fun | 3 => 3 | 46 => 83 | n => n, fun | n => n⟩
theorem Ybaz.lays317 : Go.Proofs.Lays.n317 Ybaz.prog Ybaz.lays317_ren := {
  mixed := by kernel_rfl
  f317 := Ybaz.func80.trans (congrArg some (by kernel_rfl))
  t3 := Ybaz.underlying3
  a3 := Ybaz.isAgg3
  z3 := Ybaz.sizeOf3
  v3 := Ybaz.zeroValue3
  t46 := Ybaz.underlying83
  a46 := Ybaz.isAgg83
  z46 := Ybaz.sizeOf83
  v46 := Ybaz.zeroValue83 }
open Go.Lib in
/-- internal/strconv.log10Pow2: "log10Pow2(x) returns ⌊log₁₀ 2**x⌋ = ⌊x * log₁₀ 2⌋.": '(x * 78913) >> 18', at an x up to 64 (a length in bits). The world is as it was. (LAID: no walk: one application.) -/
theorem Ybaz.internal_strconv_log10Pow2 (x : Nat) (h : x ≤ 64) (w : World) :
    Calls Ybaz.prog 80 #[.int .i64 x] w fun e w' => e = .returned (.int .i64 (Lib.l10 x)) ∧ w' = w := Any.internal_strconv_log10Pow2 Ybaz.lays317 x h w
def Ybaz.lays318_ren : Go.Shelf.Ren := ⟨fun | 318 => 81 | n => n, fun | 3 => 3 | 4 => 4 | n => n, fun | n => n⟩
theorem Ybaz.lays318 : Go.Proofs.Lays.n318 Ybaz.prog Ybaz.lays318_ren := {
  mixed := by kernel_rfl
  f318 := Ybaz.func81.trans (congrArg some (by kernel_rfl))
  t3 := Ybaz.underlying3
  a3 := Ybaz.isAgg3
  z3 := Ybaz.sizeOf3
  v3 := Ybaz.zeroValue3
  t4 := Ybaz.underlying4
  a4 := Ybaz.isAgg4
  z4 := Ybaz.sizeOf4
  v4 := Ybaz.zeroValue4 }
open Go.Lib in
/-- internal/strconv.bool2: "bool2 converts b to an integer: 1 for true, 0 for false." The world is as it was. (LAID: no walk: one application.) -/
theorem Ybaz.internal_strconv_bool2_int (b : Bool) (w : World) :
    Calls Ybaz.prog 81 #[.bool b] w fun e w' => e = .returned (.int .i64 (if b then 1 else 0)) ∧ w' = w := Any.internal_strconv_bool2_int Ybaz.lays318 b w
def Ybaz.lays283_ren : Go.Shelf.Ren := ⟨fun | 283 => 57 | n => n, fun | 3 => 3 | 9 => 9 | 4 => 4 | n => n, fun | n => n⟩
theorem Ybaz.lays283 : Go.Proofs.Lays.n283 Ybaz.prog Ybaz.lays283_ren := {
  mixed := by kernel_rfl
  f283 := Ybaz.func57.trans (congrArg some (by kernel_rfl))
  t3 := Ybaz.underlying3
  a3 := Ybaz.isAgg3
  z3 := Ybaz.sizeOf3
  v3 := Ybaz.zeroValue3
  t4 := Ybaz.underlying4
  a4 := Ybaz.isAgg4
  z4 := Ybaz.sizeOf4
  v4 := Ybaz.zeroValue4
  t9 := Ybaz.underlying9
  a9 := Ybaz.isAgg9
  z9 := Ybaz.sizeOf9
  v9 := Ybaz.zeroValue9 }
open Go.Lib in
/-- internal/strconv.small: "small returns the string for an i with 0 <= i < nSmalls.": i's decimal numeral. The world is as it was. (LAID: no walk: one application.) -/
theorem Ybaz.internal_strconv_small (i : Nat) (h : i < 100) (w : World) :
    Calls Ybaz.prog 57 #[.int .i64 i] w fun e w' => e = .returned (.string ⟨(Lib.decDigits i).toArray⟩) ∧ w' = w := Any.internal_strconv_small Ybaz.lays283 i h w
def Ybaz.laysM284_ren : Go.Shelf.Ren := ⟨fun | 284 => 58 | 129 => 48 | 317 => 80 | 318 => 81 | n => n, fun | 53 => 30 | 3 => 3 | 212 => 150 | 0 => 0 | 4 => 4 | 46 => 83 | 5 => 5 | 9 => 9 | n => n, fun | 17 => 2 | n => n⟩
theorem Ybaz.laysM284 : Go.Proofs.LaysM.n284 Ybaz.prog Ybaz.laysM284_ren := {
  mixed := by kernel_rfl
  f129 := Ybaz.func48.trans (congrArg some (by kernel_rfl))
  f284 := Ybaz.func58.trans (congrArg some (by kernel_rfl))
  f317 := Ybaz.func80.trans (congrArg some (by kernel_rfl))
  f318 := Ybaz.func81.trans (congrArg some (by kernel_rfl))
  t0 := Ybaz.underlying0
  a0 := Ybaz.isAgg0
  z0 := Ybaz.sizeOf0
  v0 := Ybaz.zeroValue0
  t3 := Ybaz.underlying3
  a3 := Ybaz.isAgg3
  z3 := Ybaz.sizeOf3
  v3 := Ybaz.zeroValue3
  t4 := Ybaz.underlying4
  a4 := Ybaz.isAgg4
  z4 := Ybaz.sizeOf4
  v4 := Ybaz.zeroValue4
  t5 := Ybaz.underlying5
  a5 := Ybaz.isAgg5
  z5 := Ybaz.sizeOf5
  v5 := Ybaz.zeroValue5
  t9 := Ybaz.underlying9
  a9 := Ybaz.isAgg9
  z9 := Ybaz.sizeOf9
  v9 := Ybaz.zeroValue9
  t46 := Ybaz.underlying83
  a46 := Ybaz.isAgg83
  z46 := Ybaz.sizeOf83
  v46 := Ybaz.zeroValue83
  t53 := Ybaz.underlying30
  a53 := Ybaz.isAgg30
  z53 := Ybaz.sizeOf30
  v53 := Ybaz.zeroValue30
  t212 := Ybaz.underlying150
  a212 := Ybaz.isAgg150
  z212 := Ybaz.sizeOf150
  v212 := Ybaz.zeroValue150
  g17 := by kernel_rfl
  i0 := by kernel_rfl
  i3 := by kernel_rfl
  i4 := by kernel_rfl
  i5 := by kernel_rfl
  i9 := by kernel_rfl
  i46 := by kernel_rfl
  i53 := by kernel_rfl
  i212 := by kernel_rfl
  m17 := by kernel_rfl }
open Go.Lib in
/-- internal/strconv.numDigits, at a d that is not 0: THE NUMBER OF d's DECIMAL DIGITS. The world is as it was. (LAID: no walk: one application.) -/
theorem Ybaz.internal_strconv_numDigits (u : Nat) (h1 : 1 ≤ u) (h2 : u < 18446744073709551616) (w : World) (htab : Lib.TabIs Ybaz.prog w "internal/strconv.uint64pow10" .u64 Lib.pow10Tab) :
    Calls Ybaz.prog 58 #[.int .u64 u] w fun e w' => e = .returned (.int .i64 (Lib.nDigits u)) ∧ w' = w := Any.internal_strconv_numDigits Ybaz.laysM284 u h1 h2 w htab
def Ybaz.lays285_ren : Go.Shelf.Ren := ⟨fun | 285 => 59 | n => n, fun | 37 => 24 | 53 => 30 | 3 => 3 | 4 => 4 | 51 => 117 | 9 => 9 | 5 => 5 | 0 => 0 | n => n, fun | n => n⟩
theorem Ybaz.lays285 : Go.Proofs.Lays.n285 Ybaz.prog Ybaz.lays285_ren := {
  mixed := by kernel_rfl
  f285 := Ybaz.func59.trans (congrArg some (by kernel_rfl))
  t0 := Ybaz.underlying0
  a0 := Ybaz.isAgg0
  z0 := Ybaz.sizeOf0
  v0 := Ybaz.zeroValue0
  t3 := Ybaz.underlying3
  a3 := Ybaz.isAgg3
  z3 := Ybaz.sizeOf3
  v3 := Ybaz.zeroValue3
  t4 := Ybaz.underlying4
  a4 := Ybaz.isAgg4
  z4 := Ybaz.sizeOf4
  v4 := Ybaz.zeroValue4
  t5 := Ybaz.underlying5
  a5 := Ybaz.isAgg5
  z5 := Ybaz.sizeOf5
  v5 := Ybaz.zeroValue5
  t9 := Ybaz.underlying9
  a9 := Ybaz.isAgg9
  z9 := Ybaz.sizeOf9
  v9 := Ybaz.zeroValue9
  t37 := Ybaz.underlying24
  a37 := Ybaz.isAgg24
  z37 := Ybaz.sizeOf24
  v37 := Ybaz.zeroValue24
  t51 := Ybaz.underlying117
  a51 := Ybaz.isAgg117
  z51 := Ybaz.sizeOf117
  v51 := Ybaz.zeroValue117
  t53 := Ybaz.underlying30
  a53 := Ybaz.isAgg30
  z53 := Ybaz.sizeOf30
  v53 := Ybaz.zeroValue30 }
open Go.RowKit Go.Sort Go.Lib in
/-- internal/strconv.formatBase10: "formatBase10 formats the decimal representation of u into a. The caller is responsible for ensuring that a is big enough to hold u. If a is too big, leading zeros will be filled in as needed.": THE ROW HOLDS u's DIGITS ('FmtInv .. 0 ..': every place t holds 'dg u (len - 1 - t)'); all else is as it was but for the count of draws. (LAID: no walk: one application.) -/
theorem Ybaz.internal_strconv_formatBase10 (blk off cap : Nat) (u : Nat) (d : Array UInt8) (w : World) (hH : Holds (fun (b : UInt8) => Value.int .u8 (b.toNat : Int)) w blk off d) (hu : u < 10 ^ d.size) (hu64 : u < 18446744073709551616) (hsz : d.size < 4611686018427387904) :
    Calls Ybaz.prog 59 #[.slice (some ⟨blk, off, none⟩) d.size cap, .int .u64 u] w fun e w' =>
      e = .returned (.tuple #[]) ∧ ∃ (n v' : Nat) (dk : Array UInt8), w' = (putRow (fun (b : UInt8) => Value.int .u8 (b.toNat : Int)) w blk off dk).drewN n ∧ FmtInv d.size u 0 v' dk := Any.internal_strconv_formatBase10 Ybaz.lays285 blk off cap u d w hH hu hu64 hsz
def Ybaz.laysM246_ren : Go.Shelf.Ren := ⟨fun | 246 => 37 | 283 => 57 | 284 => 58 | 285 => 59 | 286 => 60 | 129 => 48 | 317 => 80 | 318 => 81 | 319 => 82 | 320 => 83 | 337 => 89 | 338 => 90 | n => n, fun | 2 => 2 | 3 => 3 | 9 => 9 | 4 => 4 | 171 => 128 | 0 => 0 | 53 => 30 | 37 => 24 | 5 => 5 | 173 => 130 | 212 => 150 | 51 => 117 | 20 => 20 | 213 => 151 | 46 => 83 | 232 => 159 | 233 => 160 | n => n, fun | 17 => 2 | 18 => 3 | 19 => 4 | n => n⟩
theorem Ybaz.laysM246 : Go.Proofs.LaysM.n246 Ybaz.prog Ybaz.laysM246_ren := {
  mixed := by kernel_rfl
  f129 := Ybaz.func48.trans (congrArg some (by kernel_rfl))
  f246 := Ybaz.func37.trans (congrArg some (by kernel_rfl))
  f283 := Ybaz.func57.trans (congrArg some (by kernel_rfl))
  f284 := Ybaz.func58.trans (congrArg some (by kernel_rfl))
  f285 := Ybaz.func59.trans (congrArg some (by kernel_rfl))
  f286 := Ybaz.func60.trans (congrArg some (by kernel_rfl))
  f317 := Ybaz.func80.trans (congrArg some (by kernel_rfl))
  f318 := Ybaz.func81.trans (congrArg some (by kernel_rfl))
  f319 := Ybaz.func82.trans (congrArg some (by kernel_rfl))
  f320 := Ybaz.func83.trans (congrArg some (by kernel_rfl))
  f337 := Ybaz.func89.trans (congrArg some (by kernel_rfl))
  f338 := Ybaz.func90.trans (congrArg some (by kernel_rfl))
  t0 := Ybaz.underlying0
  a0 := Ybaz.isAgg0
  z0 := Ybaz.sizeOf0
  v0 := Ybaz.zeroValue0
  t2 := Ybaz.underlying2
  a2 := Ybaz.isAgg2
  z2 := Ybaz.sizeOf2
  v2 := Ybaz.zeroValue2
  t3 := Ybaz.underlying3
  a3 := Ybaz.isAgg3
  z3 := Ybaz.sizeOf3
  v3 := Ybaz.zeroValue3
  t4 := Ybaz.underlying4
  a4 := Ybaz.isAgg4
  z4 := Ybaz.sizeOf4
  v4 := Ybaz.zeroValue4
  t5 := Ybaz.underlying5
  a5 := Ybaz.isAgg5
  z5 := Ybaz.sizeOf5
  v5 := Ybaz.zeroValue5
  t9 := Ybaz.underlying9
  a9 := Ybaz.isAgg9
  z9 := Ybaz.sizeOf9
  v9 := Ybaz.zeroValue9
  t20 := Ybaz.underlying20
  a20 := Ybaz.isAgg20
  z20 := Ybaz.sizeOf20
  v20 := Ybaz.zeroValue20
  t37 := Ybaz.underlying24
  a37 := Ybaz.isAgg24
  z37 := Ybaz.sizeOf24
  v37 := Ybaz.zeroValue24
  t46 := Ybaz.underlying83
  a46 := Ybaz.isAgg83
  z46 := Ybaz.sizeOf83
  v46 := Ybaz.zeroValue83
  t51 := Ybaz.underlying117
  a51 := Ybaz.isAgg117
  z51 := Ybaz.sizeOf117
  v51 := Ybaz.zeroValue117
  t53 := Ybaz.underlying30
  a53 := Ybaz.isAgg30
  z53 := Ybaz.sizeOf30
  v53 := Ybaz.zeroValue30
  t171 := Ybaz.underlying128
  a171 := Ybaz.isAgg128
  z171 := Ybaz.sizeOf128
  v171 := Ybaz.zeroValue128
  t173 := Ybaz.underlying130
  a173 := Ybaz.isAgg130
  z173 := Ybaz.sizeOf130
  v173 := Ybaz.zeroValue130
  t212 := Ybaz.underlying150
  a212 := Ybaz.isAgg150
  z212 := Ybaz.sizeOf150
  v212 := Ybaz.zeroValue150
  t213 := Ybaz.underlying151
  a213 := Ybaz.isAgg151
  z213 := Ybaz.sizeOf151
  t232 := Ybaz.underlying159
  a232 := Ybaz.isAgg159
  z232 := Ybaz.sizeOf159
  v232 := Ybaz.zeroValue159
  t233 := Ybaz.underlying160
  a233 := Ybaz.isAgg160
  z233 := Ybaz.sizeOf160
  v233 := Ybaz.zeroValue160
  g17 := by kernel_rfl
  g18 := by kernel_rfl
  g19 := by kernel_rfl
  i0 := by kernel_rfl
  i2 := by kernel_rfl
  i3 := by kernel_rfl
  i4 := by kernel_rfl
  i5 := by kernel_rfl
  i9 := by kernel_rfl
  i20 := by kernel_rfl
  i37 := by kernel_rfl
  i46 := by kernel_rfl
  i51 := by kernel_rfl
  i53 := by kernel_rfl
  i171 := by kernel_rfl
  i173 := by kernel_rfl
  i212 := by kernel_rfl
  i232 := by kernel_rfl
  i233 := by kernel_rfl
  m17 := by kernel_rfl
  m18 := by kernel_rfl
  m19 := by kernel_rfl }
open Go.RowKit Go.Sort Go.Lib in
/-- internal/strconv.FormatInt: "FormatInt returns the string representation of i in the given base": AT BASE 10: i's decimal numeral, for every int64. The world behind the call: the world before it, new blocks behind the heap, draws. (LAID: no walk: one application.) -/
theorem Ybaz.internal_strconv_FormatInt_10 (n : Int) (h0 : -9223372036854775808 ≤ n) (h1 : n ≤ 9223372036854775807) (w : World) (htab : Lib.TabIs Ybaz.prog w "internal/strconv.uint64pow10" .u64 Lib.pow10Tab) :
    Calls Ybaz.prog 37 #[.int .i64 n, .int .i64 10] w fun e w' => e = .returned (.string ⟨(Lib.itoa n).toArray⟩) ∧ ∃ k os, w' = grow (w.drewN k) os := Any.internal_strconv_FormatInt_10 Ybaz.laysM246 n h0 h1 w htab
def Ybaz.lays246_ren : Go.Shelf.Ren := ⟨fun | 246 => 37 | 283 => 57 | 284 => 58 | 285 => 59 | 286 => 60 | 129 => 48 | 317 => 80 | 318 => 81 | 319 => 82 | 320 => 83 | 337 => 89 | 338 => 90 | n => n, fun | 2 => 2 | 3 => 3 | 9 => 9 | 4 => 4 | 171 => 128 | 0 => 0 | 53 => 30 | 37 => 24 | 5 => 5 | 173 => 130 | 212 => 150 | 51 => 117 | 20 => 20 | 213 => 151 | 46 => 83 | 232 => 159 | 233 => 160 | n => n, fun | 17 => 2 | 18 => 3 | 19 => 4 | n => n⟩
theorem Ybaz.lays246 : Go.Proofs.Lays.n246 Ybaz.prog Ybaz.lays246_ren := {
  mixed := by kernel_rfl
  f129 := Ybaz.func48.trans (congrArg some (by kernel_rfl))
  f246 := Ybaz.func37.trans (congrArg some (by kernel_rfl))
  f283 := Ybaz.func57.trans (congrArg some (by kernel_rfl))
  f284 := Ybaz.func58.trans (congrArg some (by kernel_rfl))
  f285 := Ybaz.func59.trans (congrArg some (by kernel_rfl))
  f286 := Ybaz.func60.trans (congrArg some (by kernel_rfl))
  f317 := Ybaz.func80.trans (congrArg some (by kernel_rfl))
  f318 := Ybaz.func81.trans (congrArg some (by kernel_rfl))
  f319 := Ybaz.func82.trans (congrArg some (by kernel_rfl))
  f320 := Ybaz.func83.trans (congrArg some (by kernel_rfl))
  f337 := Ybaz.func89.trans (congrArg some (by kernel_rfl))
  f338 := Ybaz.func90.trans (congrArg some (by kernel_rfl))
  t0 := Ybaz.underlying0
  a0 := Ybaz.isAgg0
  z0 := Ybaz.sizeOf0
  v0 := Ybaz.zeroValue0
  t2 := Ybaz.underlying2
  a2 := Ybaz.isAgg2
  z2 := Ybaz.sizeOf2
  v2 := Ybaz.zeroValue2
  t3 := Ybaz.underlying3
  a3 := Ybaz.isAgg3
  z3 := Ybaz.sizeOf3
  v3 := Ybaz.zeroValue3
  t4 := Ybaz.underlying4
  a4 := Ybaz.isAgg4
  z4 := Ybaz.sizeOf4
  v4 := Ybaz.zeroValue4
  t5 := Ybaz.underlying5
  a5 := Ybaz.isAgg5
  z5 := Ybaz.sizeOf5
  v5 := Ybaz.zeroValue5
  t9 := Ybaz.underlying9
  a9 := Ybaz.isAgg9
  z9 := Ybaz.sizeOf9
  v9 := Ybaz.zeroValue9
  t20 := Ybaz.underlying20
  a20 := Ybaz.isAgg20
  z20 := Ybaz.sizeOf20
  v20 := Ybaz.zeroValue20
  t37 := Ybaz.underlying24
  a37 := Ybaz.isAgg24
  z37 := Ybaz.sizeOf24
  v37 := Ybaz.zeroValue24
  t46 := Ybaz.underlying83
  a46 := Ybaz.isAgg83
  z46 := Ybaz.sizeOf83
  v46 := Ybaz.zeroValue83
  t51 := Ybaz.underlying117
  a51 := Ybaz.isAgg117
  z51 := Ybaz.sizeOf117
  v51 := Ybaz.zeroValue117
  t53 := Ybaz.underlying30
  a53 := Ybaz.isAgg30
  z53 := Ybaz.sizeOf30
  v53 := Ybaz.zeroValue30
  t171 := Ybaz.underlying128
  a171 := Ybaz.isAgg128
  z171 := Ybaz.sizeOf128
  v171 := Ybaz.zeroValue128
  t173 := Ybaz.underlying130
  a173 := Ybaz.isAgg130
  z173 := Ybaz.sizeOf130
  v173 := Ybaz.zeroValue130
  t212 := Ybaz.underlying150
  a212 := Ybaz.isAgg150
  z212 := Ybaz.sizeOf150
  v212 := Ybaz.zeroValue150
  t213 := Ybaz.underlying151
  a213 := Ybaz.isAgg151
  z213 := Ybaz.sizeOf151
  t232 := Ybaz.underlying159
  a232 := Ybaz.isAgg159
  z232 := Ybaz.sizeOf159
  v232 := Ybaz.zeroValue159
  t233 := Ybaz.underlying160
  a233 := Ybaz.isAgg160
  z233 := Ybaz.sizeOf160
  v233 := Ybaz.zeroValue160
  g17 := by kernel_rfl
  g18 := by kernel_rfl
  g19 := by kernel_rfl }
open Go.RowKit Go.Sort Go.Lib in
/-- THE ROAD WITHOUT THE TABLE: 0 <= i < 100: two constants are read, nothing is laid: no premise on the world, and the world is as it was. (LAID: no walk: one application.) -/
theorem Ybaz.internal_strconv_FormatInt_10_small (i : Nat) (hi : i < 100) (w : World) :
    Calls Ybaz.prog 37 #[.int .i64 i, .int .i64 10] w fun e w' => e = .returned (.string ⟨(Lib.decDigits i).toArray⟩) ∧ w' = w := Any.internal_strconv_FormatInt_10_small Ybaz.lays246 i hi w
def Ybaz.laysM243_ren : Go.Shelf.Ren := ⟨fun | 243 => 19 | 246 => 37 | 283 => 57 | 284 => 58 | 285 => 59 | 286 => 60 | 129 => 48 | 317 => 80 | 318 => 81 | 319 => 82 | 320 => 83 | 337 => 89 | 338 => 90 | n => n, fun | 3 => 3 | 9 => 9 | 2 => 2 | 4 => 4 | 171 => 128 | 0 => 0 | 53 => 30 | 37 => 24 | 5 => 5 | 173 => 130 | 212 => 150 | 51 => 117 | 20 => 20 | 213 => 151 | 46 => 83 | 232 => 159 | 233 => 160 | n => n, fun | 17 => 2 | 18 => 3 | 19 => 4 | n => n⟩
theorem Ybaz.laysM243 : Go.Proofs.LaysM.n243 Ybaz.prog Ybaz.laysM243_ren := {
  mixed := by kernel_rfl
  f129 := Ybaz.func48.trans (congrArg some (by kernel_rfl))
  f243 := Ybaz.func19.trans (congrArg some (by kernel_rfl))
  f246 := Ybaz.func37.trans (congrArg some (by kernel_rfl))
  f283 := Ybaz.func57.trans (congrArg some (by kernel_rfl))
  f284 := Ybaz.func58.trans (congrArg some (by kernel_rfl))
  f285 := Ybaz.func59.trans (congrArg some (by kernel_rfl))
  f286 := Ybaz.func60.trans (congrArg some (by kernel_rfl))
  f317 := Ybaz.func80.trans (congrArg some (by kernel_rfl))
  f318 := Ybaz.func81.trans (congrArg some (by kernel_rfl))
  f319 := Ybaz.func82.trans (congrArg some (by kernel_rfl))
  f320 := Ybaz.func83.trans (congrArg some (by kernel_rfl))
  f337 := Ybaz.func89.trans (congrArg some (by kernel_rfl))
  f338 := Ybaz.func90.trans (congrArg some (by kernel_rfl))
  t0 := Ybaz.underlying0
  a0 := Ybaz.isAgg0
  z0 := Ybaz.sizeOf0
  v0 := Ybaz.zeroValue0
  t2 := Ybaz.underlying2
  a2 := Ybaz.isAgg2
  z2 := Ybaz.sizeOf2
  v2 := Ybaz.zeroValue2
  t3 := Ybaz.underlying3
  a3 := Ybaz.isAgg3
  z3 := Ybaz.sizeOf3
  v3 := Ybaz.zeroValue3
  t4 := Ybaz.underlying4
  a4 := Ybaz.isAgg4
  z4 := Ybaz.sizeOf4
  v4 := Ybaz.zeroValue4
  t5 := Ybaz.underlying5
  a5 := Ybaz.isAgg5
  z5 := Ybaz.sizeOf5
  v5 := Ybaz.zeroValue5
  t9 := Ybaz.underlying9
  a9 := Ybaz.isAgg9
  z9 := Ybaz.sizeOf9
  v9 := Ybaz.zeroValue9
  t20 := Ybaz.underlying20
  a20 := Ybaz.isAgg20
  z20 := Ybaz.sizeOf20
  v20 := Ybaz.zeroValue20
  t37 := Ybaz.underlying24
  a37 := Ybaz.isAgg24
  z37 := Ybaz.sizeOf24
  v37 := Ybaz.zeroValue24
  t46 := Ybaz.underlying83
  a46 := Ybaz.isAgg83
  z46 := Ybaz.sizeOf83
  v46 := Ybaz.zeroValue83
  t51 := Ybaz.underlying117
  a51 := Ybaz.isAgg117
  z51 := Ybaz.sizeOf117
  v51 := Ybaz.zeroValue117
  t53 := Ybaz.underlying30
  a53 := Ybaz.isAgg30
  z53 := Ybaz.sizeOf30
  v53 := Ybaz.zeroValue30
  t171 := Ybaz.underlying128
  a171 := Ybaz.isAgg128
  z171 := Ybaz.sizeOf128
  v171 := Ybaz.zeroValue128
  t173 := Ybaz.underlying130
  a173 := Ybaz.isAgg130
  z173 := Ybaz.sizeOf130
  v173 := Ybaz.zeroValue130
  t212 := Ybaz.underlying150
  a212 := Ybaz.isAgg150
  z212 := Ybaz.sizeOf150
  v212 := Ybaz.zeroValue150
  t213 := Ybaz.underlying151
  a213 := Ybaz.isAgg151
  z213 := Ybaz.sizeOf151
  t232 := Ybaz.underlying159
  a232 := Ybaz.isAgg159
  z232 := Ybaz.sizeOf159
  v232 := Ybaz.zeroValue159
  t233 := Ybaz.underlying160
  a233 := Ybaz.isAgg160
  z233 := Ybaz.sizeOf160
  v233 := Ybaz.zeroValue160
  g17 := by kernel_rfl
  g18 := by kernel_rfl
  g19 := by kernel_rfl
  i0 := by kernel_rfl
  i2 := by kernel_rfl
  i3 := by kernel_rfl
  i4 := by kernel_rfl
  i5 := by kernel_rfl
  i9 := by kernel_rfl
  i20 := by kernel_rfl
  i37 := by kernel_rfl
  i46 := by kernel_rfl
  i51 := by kernel_rfl
  i53 := by kernel_rfl
  i171 := by kernel_rfl
  i173 := by kernel_rfl
  i212 := by kernel_rfl
  i232 := by kernel_rfl
  i233 := by kernel_rfl
  m17 := by kernel_rfl
  m18 := by kernel_rfl
  m19 := by kernel_rfl }
open Go.RowKit Go.Sort Go.Lib in
/-- internal/strconv.Itoa: "Itoa is equivalent to FormatInt(int64(i), 10).": i's decimal numeral, for every int. (LAID: no walk: one application.) -/
theorem Ybaz.internal_strconv_Itoa (n : Int) (h0 : -9223372036854775808 ≤ n) (h1 : n ≤ 9223372036854775807) (w : World) (htab : Lib.TabIs Ybaz.prog w "internal/strconv.uint64pow10" .u64 Lib.pow10Tab) :
    Calls Ybaz.prog 19 #[.int .i64 n] w fun e w' => e = .returned (.string ⟨(Lib.itoa n).toArray⟩) ∧ ∃ k os, w' = grow (w.drewN k) os := Any.internal_strconv_Itoa Ybaz.laysM243 n h0 h1 w htab
def Ybaz.lays243_ren : Go.Shelf.Ren := ⟨fun | 243 => 19 | 246 => 37 | 283 => 57 | 284 => 58 | 285 => 59 | 286 => 60 | 129 => 48 | 317 => 80 | 318 => 81 | 319 => 82 | 320 => 83 | 337 => 89 | 338 => 90 | n => n, fun | 3 => 3 | 9 => 9 | 2 => 2 | 4 => 4 | 171 => 128 | 0 => 0 | 53 => 30 | 37 => 24 | 5 => 5 | 173 => 130 | 212 => 150 | 51 => 117 | 20 => 20 | 213 => 151 | 46 => 83 | 232 => 159 | 233 => 160 | n => n, fun | 17 => 2 | 18 => 3 | 19 => 4 | n => n⟩
theorem Ybaz.lays243 : Go.Proofs.Lays.n243 Ybaz.prog Ybaz.lays243_ren := {
  mixed := by kernel_rfl
  f129 := Ybaz.func48.trans (congrArg some (by kernel_rfl))
  f243 := Ybaz.func19.trans (congrArg some (by kernel_rfl))
  f246 := Ybaz.func37.trans (congrArg some (by kernel_rfl))
  f283 := Ybaz.func57.trans (congrArg some (by kernel_rfl))
  f284 := Ybaz.func58.trans (congrArg some (by kernel_rfl))
  f285 := Ybaz.func59.trans (congrArg some (by kernel_rfl))
  f286 := Ybaz.func60.trans (congrArg some (by kernel_rfl))
  f317 := Ybaz.func80.trans (congrArg some (by kernel_rfl))
  f318 := Ybaz.func81.trans (congrArg some (by kernel_rfl))
  f319 := Ybaz.func82.trans (congrArg some (by kernel_rfl))
  f320 := Ybaz.func83.trans (congrArg some (by kernel_rfl))
  f337 := Ybaz.func89.trans (congrArg some (by kernel_rfl))
  f338 := Ybaz.func90.trans (congrArg some (by kernel_rfl))
  t0 := Ybaz.underlying0
  a0 := Ybaz.isAgg0
  z0 := Ybaz.sizeOf0
  v0 := Ybaz.zeroValue0
  t2 := Ybaz.underlying2
  a2 := Ybaz.isAgg2
  z2 := Ybaz.sizeOf2
  v2 := Ybaz.zeroValue2
  t3 := Ybaz.underlying3
  a3 := Ybaz.isAgg3
  z3 := Ybaz.sizeOf3
  v3 := Ybaz.zeroValue3
  t4 := Ybaz.underlying4
  a4 := Ybaz.isAgg4
  z4 := Ybaz.sizeOf4
  v4 := Ybaz.zeroValue4
  t5 := Ybaz.underlying5
  a5 := Ybaz.isAgg5
  z5 := Ybaz.sizeOf5
  v5 := Ybaz.zeroValue5
  t9 := Ybaz.underlying9
  a9 := Ybaz.isAgg9
  z9 := Ybaz.sizeOf9
  v9 := Ybaz.zeroValue9
  t20 := Ybaz.underlying20
  a20 := Ybaz.isAgg20
  z20 := Ybaz.sizeOf20
  v20 := Ybaz.zeroValue20
  t37 := Ybaz.underlying24
  a37 := Ybaz.isAgg24
  z37 := Ybaz.sizeOf24
  v37 := Ybaz.zeroValue24
  t46 := Ybaz.underlying83
  a46 := Ybaz.isAgg83
  z46 := Ybaz.sizeOf83
  v46 := Ybaz.zeroValue83
  t51 := Ybaz.underlying117
  a51 := Ybaz.isAgg117
  z51 := Ybaz.sizeOf117
  v51 := Ybaz.zeroValue117
  t53 := Ybaz.underlying30
  a53 := Ybaz.isAgg30
  z53 := Ybaz.sizeOf30
  v53 := Ybaz.zeroValue30
  t171 := Ybaz.underlying128
  a171 := Ybaz.isAgg128
  z171 := Ybaz.sizeOf128
  v171 := Ybaz.zeroValue128
  t173 := Ybaz.underlying130
  a173 := Ybaz.isAgg130
  z173 := Ybaz.sizeOf130
  v173 := Ybaz.zeroValue130
  t212 := Ybaz.underlying150
  a212 := Ybaz.isAgg150
  z212 := Ybaz.sizeOf150
  v212 := Ybaz.zeroValue150
  t213 := Ybaz.underlying151
  a213 := Ybaz.isAgg151
  z213 := Ybaz.sizeOf151
  t232 := Ybaz.underlying159
  a232 := Ybaz.isAgg159
  z232 := Ybaz.sizeOf159
  v232 := Ybaz.zeroValue159
  t233 := Ybaz.underlying160
  a233 := Ybaz.isAgg160
  z233 := Ybaz.sizeOf160
  v233 := Ybaz.zeroValue160
  g17 := by kernel_rfl
  g18 := by kernel_rfl
  g19 := by kernel_rfl }
open Go.RowKit Go.Sort Go.Lib in
/-- THE ROAD WITHOUT THE TABLE: 0 <= i < 100. (LAID: no walk: one application.) -/
theorem Ybaz.internal_strconv_Itoa_small (i : Nat) (hi : i < 100) (w : World) :
    Calls Ybaz.prog 19 #[.int .i64 i] w fun e w' => e = .returned (.string ⟨(Lib.decDigits i).toArray⟩) ∧ w' = w := Any.internal_strconv_Itoa_small Ybaz.lays243 i hi w
def Ybaz.laysM171_ren : Go.Shelf.Ren := ⟨fun | 171 => 8 | 243 => 19 | 246 => 37 | 283 => 57 | 284 => 58 | 285 => 59 | 286 => 60 | 129 => 48 | 317 => 80 | 318 => 81 | 319 => 82 | 320 => 83 | 337 => 89 | 338 => 90 | n => n, fun | 3 => 3 | 9 => 9 | 2 => 2 | 4 => 4 | 171 => 128 | 0 => 0 | 53 => 30 | 37 => 24 | 5 => 5 | 173 => 130 | 212 => 150 | 51 => 117 | 20 => 20 | 213 => 151 | 46 => 83 | 232 => 159 | 233 => 160 | n => n, fun | 17 => 2 | 18 => 3 | 19 => 4 | n => n⟩
theorem Ybaz.laysM171 : Go.Proofs.LaysM.n171 Ybaz.prog Ybaz.laysM171_ren := {
  mixed := by kernel_rfl
  f129 := Ybaz.func48.trans (congrArg some (by kernel_rfl))
  f171 := Ybaz.func8.trans (congrArg some (by kernel_rfl))
  f243 := Ybaz.func19.trans (congrArg some (by kernel_rfl))
  f246 := Ybaz.func37.trans (congrArg some (by kernel_rfl))
  f283 := Ybaz.func57.trans (congrArg some (by kernel_rfl))
  f284 := Ybaz.func58.trans (congrArg some (by kernel_rfl))
  f285 := Ybaz.func59.trans (congrArg some (by kernel_rfl))
  f286 := Ybaz.func60.trans (congrArg some (by kernel_rfl))
  f317 := Ybaz.func80.trans (congrArg some (by kernel_rfl))
  f318 := Ybaz.func81.trans (congrArg some (by kernel_rfl))
  f319 := Ybaz.func82.trans (congrArg some (by kernel_rfl))
  f320 := Ybaz.func83.trans (congrArg some (by kernel_rfl))
  f337 := Ybaz.func89.trans (congrArg some (by kernel_rfl))
  f338 := Ybaz.func90.trans (congrArg some (by kernel_rfl))
  t0 := Ybaz.underlying0
  a0 := Ybaz.isAgg0
  z0 := Ybaz.sizeOf0
  v0 := Ybaz.zeroValue0
  t2 := Ybaz.underlying2
  a2 := Ybaz.isAgg2
  z2 := Ybaz.sizeOf2
  v2 := Ybaz.zeroValue2
  t3 := Ybaz.underlying3
  a3 := Ybaz.isAgg3
  z3 := Ybaz.sizeOf3
  v3 := Ybaz.zeroValue3
  t4 := Ybaz.underlying4
  a4 := Ybaz.isAgg4
  z4 := Ybaz.sizeOf4
  v4 := Ybaz.zeroValue4
  t5 := Ybaz.underlying5
  a5 := Ybaz.isAgg5
  z5 := Ybaz.sizeOf5
  v5 := Ybaz.zeroValue5
  t9 := Ybaz.underlying9
  a9 := Ybaz.isAgg9
  z9 := Ybaz.sizeOf9
  v9 := Ybaz.zeroValue9
  t20 := Ybaz.underlying20
  a20 := Ybaz.isAgg20
  z20 := Ybaz.sizeOf20
  v20 := Ybaz.zeroValue20
  t37 := Ybaz.underlying24
  a37 := Ybaz.isAgg24
  z37 := Ybaz.sizeOf24
  v37 := Ybaz.zeroValue24
  t46 := Ybaz.underlying83
  a46 := Ybaz.isAgg83
  z46 := Ybaz.sizeOf83
  v46 := Ybaz.zeroValue83
  t51 := Ybaz.underlying117
  a51 := Ybaz.isAgg117
  z51 := Ybaz.sizeOf117
  v51 := Ybaz.zeroValue117
  t53 := Ybaz.underlying30
  a53 := Ybaz.isAgg30
  z53 := Ybaz.sizeOf30
  v53 := Ybaz.zeroValue30
  t171 := Ybaz.underlying128
  a171 := Ybaz.isAgg128
  z171 := Ybaz.sizeOf128
  v171 := Ybaz.zeroValue128
  t173 := Ybaz.underlying130
  a173 := Ybaz.isAgg130
  z173 := Ybaz.sizeOf130
  v173 := Ybaz.zeroValue130
  t212 := Ybaz.underlying150
  a212 := Ybaz.isAgg150
  z212 := Ybaz.sizeOf150
  v212 := Ybaz.zeroValue150
  t213 := Ybaz.underlying151
  a213 := Ybaz.isAgg151
  z213 := Ybaz.sizeOf151
  t232 := Ybaz.underlying159
  a232 := Ybaz.isAgg159
  z232 := Ybaz.sizeOf159
  v232 := Ybaz.zeroValue159
  t233 := Ybaz.underlying160
  a233 := Ybaz.isAgg160
  z233 := Ybaz.sizeOf160
  v233 := Ybaz.zeroValue160
  g17 := by kernel_rfl
  g18 := by kernel_rfl
  g19 := by kernel_rfl
  i0 := by kernel_rfl
  i2 := by kernel_rfl
  i3 := by kernel_rfl
  i4 := by kernel_rfl
  i5 := by kernel_rfl
  i9 := by kernel_rfl
  i20 := by kernel_rfl
  i37 := by kernel_rfl
  i46 := by kernel_rfl
  i51 := by kernel_rfl
  i53 := by kernel_rfl
  i171 := by kernel_rfl
  i173 := by kernel_rfl
  i212 := by kernel_rfl
  i232 := by kernel_rfl
  i233 := by kernel_rfl
  m17 := by kernel_rfl
  m18 := by kernel_rfl
  m19 := by kernel_rfl }
open Go.RowKit Go.Sort Go.Lib in
/-- strconv.Itoa: "Itoa is equivalent to FormatInt(int64(i), 10).": i's DECIMAL NUMERAL ('Lib.itoa': a '-' where i is negative, then the digits), FOR EVERY int. The world behind the call: the world before it, new blocks behind the heap (the library's 'var a [24]byte'), draws. (LAID: no walk: one application.) -/
theorem Ybaz.strconv_Itoa (n : Int) (h0 : -9223372036854775808 ≤ n) (h1 : n ≤ 9223372036854775807) (w : World) (htab : Lib.TabIs Ybaz.prog w "internal/strconv.uint64pow10" .u64 Lib.pow10Tab) :
    Calls Ybaz.prog 8 #[.int .i64 n] w fun e w' => e = .returned (.string ⟨(Lib.itoa n).toArray⟩) ∧ ∃ k os, w' = grow (w.drewN k) os := Any.strconv_Itoa Ybaz.laysM171 n h0 h1 w htab
def Ybaz.lays171_ren : Go.Shelf.Ren := ⟨fun | 171 => 8 | 243 => 19 | 246 => 37 | 283 => 57 | 284 => 58 | 285 => 59 | 286 => 60 | 129 => 48 | 317 => 80 | 318 => 81 | 319 => 82 | 320 => 83 | 337 => 89 | 338 => 90 | n => n, fun | 3 => 3 | 9 => 9 | 2 => 2 | 4 => 4 | 171 => 128 | 0 => 0 | 53 => 30 | 37 => 24 | 5 => 5 | 173 => 130 | 212 => 150 | 51 => 117 | 20 => 20 | 213 => 151 | 46 => 83 | 232 => 159 | 233 => 160 | n => n, fun | 17 => 2 | 18 => 3 | 19 => 4 | n => n⟩
theorem Ybaz.lays171 : Go.Proofs.Lays.n171 Ybaz.prog Ybaz.lays171_ren := {
  mixed := by kernel_rfl
  f129 := Ybaz.func48.trans (congrArg some (by kernel_rfl))
  f171 := Ybaz.func8.trans (congrArg some (by kernel_rfl))
  f243 := Ybaz.func19.trans (congrArg some (by kernel_rfl))
  f246 := Ybaz.func37.trans (congrArg some (by kernel_rfl))
  f283 := Ybaz.func57.trans (congrArg some (by kernel_rfl))
  f284 := Ybaz.func58.trans (congrArg some (by kernel_rfl))
  f285 := Ybaz.func59.trans (congrArg some (by kernel_rfl))
  f286 := Ybaz.func60.trans (congrArg some (by kernel_rfl))
  f317 := Ybaz.func80.trans (congrArg some (by kernel_rfl))
  f318 := Ybaz.func81.trans (congrArg some (by kernel_rfl))
  f319 := Ybaz.func82.trans (congrArg some (by kernel_rfl))
  f320 := Ybaz.func83.trans (congrArg some (by kernel_rfl))
  f337 := Ybaz.func89.trans (congrArg some (by kernel_rfl))
  f338 := Ybaz.func90.trans (congrArg some (by kernel_rfl))
  t0 := Ybaz.underlying0
  a0 := Ybaz.isAgg0
  z0 := Ybaz.sizeOf0
  v0 := Ybaz.zeroValue0
  t2 := Ybaz.underlying2
  a2 := Ybaz.isAgg2
  z2 := Ybaz.sizeOf2
  v2 := Ybaz.zeroValue2
  t3 := Ybaz.underlying3
  a3 := Ybaz.isAgg3
  z3 := Ybaz.sizeOf3
  v3 := Ybaz.zeroValue3
  t4 := Ybaz.underlying4
  a4 := Ybaz.isAgg4
  z4 := Ybaz.sizeOf4
  v4 := Ybaz.zeroValue4
  t5 := Ybaz.underlying5
  a5 := Ybaz.isAgg5
  z5 := Ybaz.sizeOf5
  v5 := Ybaz.zeroValue5
  t9 := Ybaz.underlying9
  a9 := Ybaz.isAgg9
  z9 := Ybaz.sizeOf9
  v9 := Ybaz.zeroValue9
  t20 := Ybaz.underlying20
  a20 := Ybaz.isAgg20
  z20 := Ybaz.sizeOf20
  v20 := Ybaz.zeroValue20
  t37 := Ybaz.underlying24
  a37 := Ybaz.isAgg24
  z37 := Ybaz.sizeOf24
  v37 := Ybaz.zeroValue24
  t46 := Ybaz.underlying83
  a46 := Ybaz.isAgg83
  z46 := Ybaz.sizeOf83
  v46 := Ybaz.zeroValue83
  t51 := Ybaz.underlying117
  a51 := Ybaz.isAgg117
  z51 := Ybaz.sizeOf117
  v51 := Ybaz.zeroValue117
  t53 := Ybaz.underlying30
  a53 := Ybaz.isAgg30
  z53 := Ybaz.sizeOf30
  v53 := Ybaz.zeroValue30
  t171 := Ybaz.underlying128
  a171 := Ybaz.isAgg128
  z171 := Ybaz.sizeOf128
  v171 := Ybaz.zeroValue128
  t173 := Ybaz.underlying130
  a173 := Ybaz.isAgg130
  z173 := Ybaz.sizeOf130
  v173 := Ybaz.zeroValue130
  t212 := Ybaz.underlying150
  a212 := Ybaz.isAgg150
  z212 := Ybaz.sizeOf150
  v212 := Ybaz.zeroValue150
  t213 := Ybaz.underlying151
  a213 := Ybaz.isAgg151
  z213 := Ybaz.sizeOf151
  t232 := Ybaz.underlying159
  a232 := Ybaz.isAgg159
  z232 := Ybaz.sizeOf159
  v232 := Ybaz.zeroValue159
  t233 := Ybaz.underlying160
  a233 := Ybaz.isAgg160
  z233 := Ybaz.sizeOf160
  v233 := Ybaz.zeroValue160
  g17 := by kernel_rfl
  g18 := by kernel_rfl
  g19 := by kernel_rfl }
open Go.RowKit Go.Sort Go.Lib in
/-- THE ROAD WITHOUT THE TABLE: 0 <= i < 100: NO PREMISE ON THE WORLD, AND THE WORLD IS AS IT WAS: a row that keeps its argument in that range need list no table ('laid = []'). (LAID: no walk: one application.) -/
theorem Ybaz.strconv_Itoa_small (i : Nat) (hi : i < 100) (w : World) :
    Calls Ybaz.prog 8 #[.int .i64 i] w fun e w' => e = .returned (.string ⟨(Lib.decDigits i).toArray⟩) ∧ w' = w := Any.strconv_Itoa_small Ybaz.lays171 i hi w
def Ybaz.lays207_ren : Go.Shelf.Ren := ⟨fun | 207 => 85 | n => n, fun | 9 => 9 | 4 => 4 | 3 => 3 | n => n, fun | n => n⟩
theorem Ybaz.lays207 : Go.Proofs.Lays.n207 Ybaz.prog Ybaz.lays207_ren := {
  mixed := by kernel_rfl
  f207 := Ybaz.func85.trans (congrArg some (by kernel_rfl))
  t3 := Ybaz.underlying3
  a3 := Ybaz.isAgg3
  z3 := Ybaz.sizeOf3
  v3 := Ybaz.zeroValue3
  t4 := Ybaz.underlying4
  a4 := Ybaz.isAgg4
  z4 := Ybaz.sizeOf4
  v4 := Ybaz.zeroValue4
  t9 := Ybaz.underlying9
  a9 := Ybaz.isAgg9
  z9 := Ybaz.sizeOf9
  v9 := Ybaz.zeroValue9 }
open Go.RowKit Go.Lib in
/-- internal/stringslite.HasSuffix (what strings.HasSuffix calls). (LAID: no walk: one application.) -/
theorem Ybaz.stringslite_HasSuffix (s p : ByteArray) (w : World) (hs : s.size ≤ 9223372036854775807) :
    Calls Ybaz.prog 85 #[.string s, .string p] w fun e w' => e = .returned (.bool (Lib.hasSuffix s.data.toList p.data.toList)) ∧ w' = w := Any.stringslite_HasSuffix Ybaz.lays207 s p w hs
end Go.Proofs
