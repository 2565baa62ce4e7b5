/-
  DERIVED: THE SHELF's CONTRACTS AT THIS DUMP, IN PLAIN WORDS (tools/lay-plain.mjs out of 'YbafShelf.lean', which tools/lay-shelf.mjs wrote): THE SAME DECLARATIONS UNDER THE SAME NAMES: 'import', 'namespace', 'open', 'def', 'theorem' AND NOTHING ELSE: no command of the shelf's: FOR A HAND-IN. Each laying: the table of numbers ('.._ren') and one theorem, a field a fact of the dump's own or the kernel's comparison; each contract: ONE APPLICATION.
-/
import Derived.Shelf.Strings.Builder1
import Derived.Shelf.Strings.Builder2
import Derived.Shelf.Strings.OnBuilder
import Derived.Shelf.Small.Bits
import Derived.Shelf.Small.Strs
import Derived.Shelf.Small.Wraps
import Derived.Shelf.Strconv.Itoa0
import Derived.Shelf.Strconv.Itoa1
import Derived.Shelf.LaysM
import Derived.Shelf.Strconv.Itoa2
import Derived.Shelf.Strconv.Itoa3
import Derived.Shelf.Strings.Prefix
import Derived.Test.YbulkcvxmFmtProg
namespace Go.Proofs
open Go.Shelf
def Ybaf.lays169_ren : Go.Shelf.Ren := ⟨fun | 169 => 25 | n => n, fun | 70 => 73 | 9 => 9 | 0 => 0 | 72 => 75 | 37 => 24 | 127 => 97 | 3 => 3 | 5 => 5 | n => n, fun | n => n⟩
theorem Ybaf.lays169 : Go.Proofs.Lays.n169 Ybaf.prog Ybaf.lays169_ren := {
  mixed := by kernel_rfl
  f169 := Ybaf.func25.trans (congrArg some (by kernel_rfl))
  t0 := Ybaf.underlying0
  a0 := Ybaf.isAgg0
  z0 := Ybaf.sizeOf0
  v0 := Ybaf.zeroValue0
  t3 := Ybaf.underlying3
  a3 := Ybaf.isAgg3
  z3 := Ybaf.sizeOf3
  v3 := Ybaf.zeroValue3
  t9 := Ybaf.underlying9
  a9 := Ybaf.isAgg9
  z9 := Ybaf.sizeOf9
  v9 := Ybaf.zeroValue9
  t37 := Ybaf.underlying24
  a37 := Ybaf.isAgg24
  z37 := Ybaf.sizeOf24
  v37 := Ybaf.zeroValue24
  t70 := Ybaf.underlying73
  a70 := Ybaf.isAgg73
  z70 := Ybaf.sizeOf73
  v70 := Ybaf.zeroValue73
  t72 := Ybaf.underlying75
  a72 := Ybaf.isAgg75
  z72 := Ybaf.sizeOf75
  v72 := Ybaf.zeroValue75
  t127 := Ybaf.underlying97
  a127 := Ybaf.isAgg97
  z127 := Ybaf.sizeOf97
  v127 := Ybaf.zeroValue97 }
theorem Ybaf.Builder_Extra_169 : Builder.Extra Ybaf.prog Ybaf.lays169_ren := {
  sizeBuilder := by kernel_rfl
  liesBuilder := by kernel_rfl
  t5 := Ybaf.underlying5
  a5 := Ybaf.isAgg5
  z5 := Ybaf.sizeOf5
  v5 := Ybaf.zeroValue5
  infoByte := by kernel_rfl
  cellsByte := by kernel_rfl
  sizeByte := by kernel_rfl
  neB5 := by decide }
open Go.RowKit in
/-- (*strings.Builder).String: "String returns the accumulated string.": OF A BUILDER THAT HOLDS AT LEAST ONE BYTE. ✋ THE MODEL FREEZES THOSE BYTES IN THE BUFFER: a later write INTO them ends the model's run without an answer; a later append BEHIND them goes on. The statement's order of evaluation is drawn: one draw. (LAID: no walk: one application.) -/
theorem Ybaf.Builder_String (B b : Nat) (l : List UInt8) (w : World) (h : Lib.IsBuilder 75 5 B b (Lib.byteCells l) w) (h0 : l ≠ []) :
    Calls Ybaf.prog 25 #[.pointer (some ⟨b, 0, none⟩)] w fun e w' => e = .returned (.string ⟨l.toArray⟩) ∧ Below B w w' := Any.Builder_String Ybaf.lays169 Ybaf.Builder_Extra_169 B b l w h h0
open Go.RowKit in
/-- (*strings.Builder).String OF A BUILDER THAT HOLDS NO BYTE: the empty string. (Its buffer is nil, or a row of which it has taken nothing yet; where that row has NO capacity the model lays one new block for an address.) One draw. (LAID: no walk: one application.) -/
theorem Ybaf.Builder_String_empty (B b : Nat) (w : World) (h : Lib.IsBuilder 75 5 B b [] w) (hBw : B ≤ w.heap.size) :
    Calls Ybaf.prog 25 #[.pointer (some ⟨b, 0, none⟩)] w fun e w' => e = .returned (.string ⟨#[]⟩) ∧ Below B w w' := Any.Builder_String_empty Ybaf.lays169 Ybaf.Builder_Extra_169 B b w h hBw
open Go.RowKit in
/-- (*strings.Builder).String: "String returns the accumulated string.": WHATEVER THE BUILDER HOLDS. (LAID: no walk: one application.) -/
theorem Ybaf.Builder_String_any (B b : Nat) (l : List UInt8) (w : World) (h : Lib.IsBuilder 75 5 B b (Lib.byteCells l) w) (hBw : B ≤ w.heap.size) :
    Calls Ybaf.prog 25 #[.pointer (some ⟨b, 0, none⟩)] w fun e w' => e = .returned (.string ⟨l.toArray⟩) ∧ Below B w w' := Any.Builder_String_any Ybaf.lays169 Ybaf.Builder_Extra_169 B b l w h hBw
def Ybaf.lays241_ren : Go.Shelf.Ren := ⟨fun | 241 => 38 | 277 => 51 | n => n, fun | 70 => 73 | 3 => 3 | 0 => 0 | 72 => 75 | 37 => 24 | 5 => 5 | n => n, fun | n => n⟩
theorem Ybaf.lays241 : Go.Proofs.Lays.n241 Ybaf.prog Ybaf.lays241_ren := {
  mixed := by kernel_rfl
  f241 := Ybaf.func38.trans (congrArg some (by kernel_rfl))
  f277 := Ybaf.func51.trans (congrArg some (by kernel_rfl))
  t0 := Ybaf.underlying0
  a0 := Ybaf.isAgg0
  z0 := Ybaf.sizeOf0
  v0 := Ybaf.zeroValue0
  t3 := Ybaf.underlying3
  a3 := Ybaf.isAgg3
  z3 := Ybaf.sizeOf3
  v3 := Ybaf.zeroValue3
  t37 := Ybaf.underlying24
  a37 := Ybaf.isAgg24
  z37 := Ybaf.sizeOf24
  v37 := Ybaf.zeroValue24
  t70 := Ybaf.underlying73
  a70 := Ybaf.isAgg73
  z70 := Ybaf.sizeOf73
  v70 := Ybaf.zeroValue73
  t72 := Ybaf.underlying75
  a72 := Ybaf.isAgg75
  z72 := Ybaf.sizeOf75
  v72 := Ybaf.zeroValue75 }
theorem Ybaf.Builder_Extra_241 : Builder.Extra Ybaf.prog Ybaf.lays241_ren := {
  sizeBuilder := by kernel_rfl
  liesBuilder := by kernel_rfl
  t5 := Ybaf.underlying5
  a5 := Ybaf.isAgg5
  z5 := Ybaf.sizeOf5
  v5 := Ybaf.zeroValue5
  infoByte := by kernel_rfl
  cellsByte := by kernel_rfl
  sizeByte := by kernel_rfl
  neB5 := by decide }
open Go.RowKit in
/-- (*strings.Builder).grow (no doc but "grow copies the buffer to a new, larger buffer so that there are at least n bytes of capacity beyond len(b.buf)."): AT A BUILDER WITHOUT A BUFFER: a new row of whatever bytes for its buffer, none of them its own yet. Three draws. (LAID: no walk: one application.) -/
theorem Ybaf.Builder_grow_fresh (B b n : Nat) (w : World) (hB : B ≤ b) (hbk : w.heap[b]? = some (.cells #[.pointer (some ⟨b, 0, none⟩), .slice none 0 0] 75 (0, 0))) (hBw : B ≤ w.heap.size) (hn : n ≤ 281474976710656) :
    Calls Ybaf.prog 38 #[.pointer (some ⟨b, 0, none⟩), .int .i64 n] w fun e w' => e = .returned (.tuple #[]) ∧ (Lib.BuilderAt 75 5 B b (.pointer (some ⟨b, 0, none⟩)) [] w' ∧ Below B w w') := Any.Builder_grow_fresh Ybaf.lays241 Ybaf.Builder_Extra_241 B b n w hB hbk hBw hn
def Ybaf.lays165_ren : Go.Shelf.Ren := ⟨fun | 165 => 23 | 240 => 37 | 241 => 38 | 276 => 50 | 277 => 51 | n => n, fun | 70 => 73 | 3 => 3 | 0 => 0 | 4 => 4 | 9 => 9 | 20 => 20 | 72 => 75 | 37 => 24 | 164 => 112 | 5 => 5 | n => n, fun | n => n⟩
theorem Ybaf.lays165 : Go.Proofs.Lays.n165 Ybaf.prog Ybaf.lays165_ren := {
  mixed := by kernel_rfl
  f165 := Ybaf.func23.trans (congrArg some (by kernel_rfl))
  f240 := Ybaf.func37.trans (congrArg some (by kernel_rfl))
  f241 := Ybaf.func38.trans (congrArg some (by kernel_rfl))
  f276 := Ybaf.func50.trans (congrArg some (by kernel_rfl))
  f277 := Ybaf.func51.trans (congrArg some (by kernel_rfl))
  t0 := Ybaf.underlying0
  a0 := Ybaf.isAgg0
  z0 := Ybaf.sizeOf0
  v0 := Ybaf.zeroValue0
  t3 := Ybaf.underlying3
  a3 := Ybaf.isAgg3
  z3 := Ybaf.sizeOf3
  v3 := Ybaf.zeroValue3
  t4 := Ybaf.underlying4
  a4 := Ybaf.isAgg4
  z4 := Ybaf.sizeOf4
  v4 := Ybaf.zeroValue4
  t9 := Ybaf.underlying9
  a9 := Ybaf.isAgg9
  z9 := Ybaf.sizeOf9
  v9 := Ybaf.zeroValue9
  t20 := Ybaf.underlying20
  a20 := Ybaf.isAgg20
  z20 := Ybaf.sizeOf20
  v20 := Ybaf.zeroValue20
  t37 := Ybaf.underlying24
  a37 := Ybaf.isAgg24
  z37 := Ybaf.sizeOf24
  v37 := Ybaf.zeroValue24
  t70 := Ybaf.underlying73
  a70 := Ybaf.isAgg73
  z70 := Ybaf.sizeOf73
  v70 := Ybaf.zeroValue73
  t72 := Ybaf.underlying75
  a72 := Ybaf.isAgg75
  z72 := Ybaf.sizeOf75
  v72 := Ybaf.zeroValue75
  t164 := Ybaf.underlying112
  a164 := Ybaf.isAgg112
  z164 := Ybaf.sizeOf112
  v164 := Ybaf.zeroValue112 }
theorem Ybaf.Builder_Extra_165 : Builder.Extra Ybaf.prog Ybaf.lays165_ren := {
  sizeBuilder := by kernel_rfl
  liesBuilder := by kernel_rfl
  t5 := Ybaf.underlying5
  a5 := Ybaf.isAgg5
  z5 := Ybaf.sizeOf5
  v5 := Ybaf.zeroValue5
  infoByte := by kernel_rfl
  cellsByte := by kernel_rfl
  sizeByte := by kernel_rfl
  neB5 := by decide }
open Go.RowKit in
/-- (*strings.Builder).Grow AT A BUILDER THAT HAS NOT BEEN WRITTEN ('var b strings.Builder; b.Grow(n)'): "Grow grows b's capacity, if necessary, to guarantee space for another n bytes.": it holds no byte behind it as before it. (LAID: no walk: one application.) -/
theorem Ybaf.Builder_Grow_fresh (B b n : Nat) (w : World) (hB : B ≤ b) (hbk : w.heap[b]? = some (.cells #[.pointer none, .slice none 0 0] 75 (0, 0))) (hBw : B ≤ w.heap.size) (hn : n ≤ 281474976710656) :
    Calls Ybaf.prog 23 #[.pointer (some ⟨b, 0, none⟩), .int .i64 n] w fun e w' => e = .returned (.tuple #[]) ∧ (Lib.BuilderAt 75 5 B b (.pointer (some ⟨b, 0, none⟩)) [] w' ∧ Below B w w') := Any.Builder_Grow_fresh Ybaf.lays165 Ybaf.Builder_Extra_165 B b n w hB hbk hBw hn
def Ybaf.lays156_ren : Go.Shelf.Ren := ⟨fun | 156 => 14 | 165 => 23 | 166 => 24 | 169 => 25 | 240 => 37 | 241 => 38 | 276 => 50 | 277 => 51 | n => n, fun | 31 => 42 | 9 => 9 | 3 => 3 | 4 => 4 | 0 => 0 | 20 => 20 | 72 => 75 | 76 => 77 | 70 => 73 | 37 => 24 | 75 => 34 | 127 => 97 | 164 => 112 | 5 => 5 | 80 => 79 | n => n, fun | n => n⟩
theorem Ybaf.lays156 : Go.Proofs.Lays.n156 Ybaf.prog Ybaf.lays156_ren := {
  mixed := by kernel_rfl
  f156 := Ybaf.func14.trans (congrArg some (by kernel_rfl))
  f165 := Ybaf.func23.trans (congrArg some (by kernel_rfl))
  f166 := Ybaf.func24.trans (congrArg some (by kernel_rfl))
  f169 := Ybaf.func25.trans (congrArg some (by kernel_rfl))
  f240 := Ybaf.func37.trans (congrArg some (by kernel_rfl))
  f241 := Ybaf.func38.trans (congrArg some (by kernel_rfl))
  f276 := Ybaf.func50.trans (congrArg some (by kernel_rfl))
  f277 := Ybaf.func51.trans (congrArg some (by kernel_rfl))
  t0 := Ybaf.underlying0
  a0 := Ybaf.isAgg0
  z0 := Ybaf.sizeOf0
  v0 := Ybaf.zeroValue0
  t3 := Ybaf.underlying3
  a3 := Ybaf.isAgg3
  z3 := Ybaf.sizeOf3
  v3 := Ybaf.zeroValue3
  t4 := Ybaf.underlying4
  a4 := Ybaf.isAgg4
  z4 := Ybaf.sizeOf4
  v4 := Ybaf.zeroValue4
  t9 := Ybaf.underlying9
  a9 := Ybaf.isAgg9
  z9 := Ybaf.sizeOf9
  v9 := Ybaf.zeroValue9
  t20 := Ybaf.underlying20
  a20 := Ybaf.isAgg20
  z20 := Ybaf.sizeOf20
  v20 := Ybaf.zeroValue20
  t31 := Ybaf.underlying42
  a31 := Ybaf.isAgg42
  z31 := Ybaf.sizeOf42
  v31 := Ybaf.zeroValue42
  t37 := Ybaf.underlying24
  a37 := Ybaf.isAgg24
  z37 := Ybaf.sizeOf24
  v37 := Ybaf.zeroValue24
  t70 := Ybaf.underlying73
  a70 := Ybaf.isAgg73
  z70 := Ybaf.sizeOf73
  v70 := Ybaf.zeroValue73
  t72 := Ybaf.underlying75
  a72 := Ybaf.isAgg75
  z72 := Ybaf.sizeOf75
  v72 := Ybaf.zeroValue75
  t75 := Ybaf.underlying34
  a75 := Ybaf.isAgg34
  z75 := Ybaf.sizeOf34
  v75 := Ybaf.zeroValue34
  t76 := Ybaf.underlying77
  a76 := Ybaf.isAgg77
  z76 := Ybaf.sizeOf77
  v76 := Ybaf.zeroValue77
  t127 := Ybaf.underlying97
  a127 := Ybaf.isAgg97
  z127 := Ybaf.sizeOf97
  v127 := Ybaf.zeroValue97
  t164 := Ybaf.underlying112
  a164 := Ybaf.isAgg112
  z164 := Ybaf.sizeOf112
  v164 := Ybaf.zeroValue112 }
theorem Ybaf.Builder_Extra_156 : Builder.Extra Ybaf.prog Ybaf.lays156_ren := {
  sizeBuilder := by kernel_rfl
  liesBuilder := by kernel_rfl
  t5 := Ybaf.underlying5
  a5 := Ybaf.isAgg5
  z5 := Ybaf.sizeOf5
  v5 := Ybaf.zeroValue5
  infoByte := by kernel_rfl
  cellsByte := by kernel_rfl
  sizeByte := by kernel_rfl
  neB5 := by decide }
open Go.RowKit in
/-- No element: the empty string; the world is as it was. (Whatever the slice's address and capacity: a nil slice too.) (LAID: no walk: one application.) -/
theorem Ybaf.strings_Join_none (a : Option Addr) (c : Nat) (sep : ByteArray) (w : World) :
    Calls Ybaf.prog 14 #[.slice a 0 c, .string sep] w fun e w' => e = .returned (.string ⟨#[]⟩) ∧ w' = w := Any.strings_Join_none Ybaf.lays156 Ybaf.Builder_Extra_156 a c sep w
open Go.RowKit in
/-- strings.Join: "Join concatenates the elements of its first argument to create a single string. The separator string sep is placed between elements in the resulting string.": HOWEVER MANY ELEMENTS. Below the heap's end the world is as it was. (LAID: no walk: one application.) -/
theorem Ybaf.strings_Join (bk o c : Nat) (xs : List ByteArray) (sep : ByteArray) (w : World) (hcells : ∀ (j : Nat) x, xs[j]? = some x → w.cell? ⟨bk, o + j, none⟩ = some (.string x)) (hbk : bk < w.heap.size) (hN : xs.length ≤ 140737488355328) (hcap : xs.length ≤ c) (hlen : (Lib.join (xs.map (·.data.toList)) sep.data.toList).length ≤ 140737488355328) :
    Calls Ybaf.prog 14 #[.slice (some ⟨bk, o, none⟩) xs.length c, .string sep] w fun e w' => e = .returned (.string ⟨(Lib.join (xs.map (·.data.toList)) sep.data.toList).toArray⟩) ∧ Below w.heap.size w w' := Any.strings_Join Ybaf.lays156 Ybaf.Builder_Extra_156 bk o c xs sep w hcells hbk hN hcap hlen
def Ybaf.lays128_ren : Go.Shelf.Ren := ⟨fun | 128 => 62 | n => n, fun | 51 => 125 | 3 => 3 | 4 => 4 | 46 => 105 | 5 => 5 | 9 => 9 | n => n, fun | n => n⟩
theorem Ybaf.lays128 : Go.Proofs.Lays.n128 Ybaf.prog Ybaf.lays128_ren := {
  mixed := by kernel_rfl
  f128 := Ybaf.func62.trans (congrArg some (by kernel_rfl))
  t3 := Ybaf.underlying3
  a3 := Ybaf.isAgg3
  z3 := Ybaf.sizeOf3
  v3 := Ybaf.zeroValue3
  t4 := Ybaf.underlying4
  a4 := Ybaf.isAgg4
  z4 := Ybaf.sizeOf4
  v4 := Ybaf.zeroValue4
  t5 := Ybaf.underlying5
  a5 := Ybaf.isAgg5
  z5 := Ybaf.sizeOf5
  v5 := Ybaf.zeroValue5
  t9 := Ybaf.underlying9
  a9 := Ybaf.isAgg9
  z9 := Ybaf.sizeOf9
  v9 := Ybaf.zeroValue9
  t46 := Ybaf.underlying105
  a46 := Ybaf.isAgg105
  z46 := Ybaf.sizeOf105
  v46 := Ybaf.zeroValue105
  t51 := Ybaf.underlying125
  a51 := Ybaf.isAgg125
  z51 := Ybaf.sizeOf125
  v51 := Ybaf.zeroValue125 }
/-- bits.Len32: "Len32 returns the minimum number of bits required to represent x; the result is 0 for x == 0.": IT RETURNS 'Lib.bitLen x'; the world is as it was. ('h0', 'h1': x is a uint32.) (LAID: no walk: one application.) -/
theorem Ybaf.bits_Len32 (x : Int) (w : World) (h0 : 0 ≤ x) (h1 : x ≤ 4294967295) :
    Calls Ybaf.prog 62 #[.int .u32 x] w fun e w' => e = .returned (.int .i64 (Lib.bitLen x.toNat)) ∧ w' = w := Any.bits_Len32 Ybaf.lays128 x w h0 h1
def Ybaf.lays125_ren : Go.Shelf.Ren := ⟨fun | 125 => 44 | 128 => 62 | 129 => 63 | n => n, fun | 46 => 105 | 3 => 3 | 51 => 125 | 53 => 107 | 4 => 4 | 5 => 5 | 9 => 9 | n => n, fun | n => n⟩
theorem Ybaf.lays125 : Go.Proofs.Lays.n125 Ybaf.prog Ybaf.lays125_ren := {
  mixed := by kernel_rfl
  f125 := Ybaf.func44.trans (congrArg some (by kernel_rfl))
  f128 := Ybaf.func62.trans (congrArg some (by kernel_rfl))
  f129 := Ybaf.func63.trans (congrArg some (by kernel_rfl))
  t3 := Ybaf.underlying3
  a3 := Ybaf.isAgg3
  z3 := Ybaf.sizeOf3
  v3 := Ybaf.zeroValue3
  t4 := Ybaf.underlying4
  a4 := Ybaf.isAgg4
  z4 := Ybaf.sizeOf4
  v4 := Ybaf.zeroValue4
  t5 := Ybaf.underlying5
  a5 := Ybaf.isAgg5
  z5 := Ybaf.sizeOf5
  v5 := Ybaf.zeroValue5
  t9 := Ybaf.underlying9
  a9 := Ybaf.isAgg9
  z9 := Ybaf.sizeOf9
  v9 := Ybaf.zeroValue9
  t46 := Ybaf.underlying105
  a46 := Ybaf.isAgg105
  z46 := Ybaf.sizeOf105
  v46 := Ybaf.zeroValue105
  t51 := Ybaf.underlying125
  a51 := Ybaf.isAgg125
  z51 := Ybaf.sizeOf125
  v51 := Ybaf.zeroValue125
  t53 := Ybaf.underlying107
  a53 := Ybaf.isAgg107
  z53 := Ybaf.sizeOf107
  v53 := Ybaf.zeroValue107 }
/-- bits.Len: "Len returns the minimum number of bits required to represent x; the result is 0 for x == 0.": IT RETURNS 'Lib.bitLen x'; the world is as it was. (A uint has 64 bits in the model.) ITS CALLEE bits.Len64 IS MET BY ITS OWN CONTRACT OFF THE SHELF (lay that first). (LAID: no walk: one application.) -/
theorem Ybaf.bits_Len (x : Int) (w : World) (h0 : 0 ≤ x) (h1 : x ≤ 18446744073709551615) :
    Calls Ybaf.prog 44 #[.int .u64 x] w fun e w' => e = .returned (.int .i64 (Lib.bitLen x.toNat)) ∧ w' = w := Any.bits_Len Ybaf.lays125 x w h0 h1
def Ybaf.lays213_ren : Go.Shelf.Ren := ⟨fun | 213 => 45 | 265 => 64 | n => n, fun | 9 => 9 | 3 => 3 | n => n, fun | n => n⟩
theorem Ybaf.lays213 : Go.Proofs.Lays.n213 Ybaf.prog Ybaf.lays213_ren := {
  mixed := by kernel_rfl
  f213 := Ybaf.func45.trans (congrArg some (by kernel_rfl))
  f265 := Ybaf.func64.trans (congrArg some (by kernel_rfl))
  t3 := Ybaf.underlying3
  a3 := Ybaf.isAgg3
  z3 := Ybaf.sizeOf3
  v3 := Ybaf.zeroValue3
  t9 := Ybaf.underlying9
  a9 := Ybaf.isAgg9
  z9 := Ybaf.sizeOf9
  v9 := Ybaf.zeroValue9 }
open Go.RowKit in
/-- internal/bytealg.CompareString (what strings.Compare calls): IT RETURNS 'Lib.compareBytes a b'; the world is as it was. (LAID: no walk: one application.) -/
theorem Ybaf.bytealg_CompareString (a b : ByteArray) (w : World) :
    Calls Ybaf.prog 45 #[.string a, .string b] w fun e w' => e = .returned (.int .i64 (Lib.compareBytes a.data.toList b.data.toList)) ∧ w' = w := Any.bytealg_CompareString Ybaf.lays213 a b w
def Ybaf.lays106_ren : Go.Shelf.Ren := ⟨fun | 106 => 33 | 213 => 45 | 265 => 64 | n => n, fun | 9 => 9 | 3 => 3 | n => n, fun | n => n⟩
theorem Ybaf.lays106 : Go.Proofs.Lays.n106 Ybaf.prog Ybaf.lays106_ren := {
  mixed := by kernel_rfl
  f106 := Ybaf.func33.trans (congrArg some (by kernel_rfl))
  f213 := Ybaf.func45.trans (congrArg some (by kernel_rfl))
  f265 := Ybaf.func64.trans (congrArg some (by kernel_rfl))
  t3 := Ybaf.underlying3
  a3 := Ybaf.isAgg3
  z3 := Ybaf.sizeOf3
  v3 := Ybaf.zeroValue3
  t9 := Ybaf.underlying9
  a9 := Ybaf.isAgg9
  z9 := Ybaf.sizeOf9
  v9 := Ybaf.zeroValue9 }
open Go.RowKit in
/-- strings.Compare: "Compare returns an integer comparing two strings lexicographically. The result will be 0 if a == b, -1 if a < b, and +1 if a > b.": IT RETURNS 'Lib.compareBytes a b'; the world is as it was. (LAID: no walk: one application.) -/
theorem Ybaf.strings_Compare (a b : ByteArray) (w : World) :
    Calls Ybaf.prog 33 #[.string a, .string b] w fun e w' => e = .returned (.int .i64 (Lib.compareBytes a.data.toList b.data.toList)) ∧ w' = w := Any.strings_Compare Ybaf.lays106 a b w
def Ybaf.lays211_ren : Go.Shelf.Ren := ⟨fun | 211 => 52 | 207 => 69 | n => n, fun | 9 => 9 | 4 => 4 | 3 => 3 | n => n, fun | n => n⟩
theorem Ybaf.lays211 : Go.Proofs.Lays.n211 Ybaf.prog Ybaf.lays211_ren := {
  mixed := by kernel_rfl
  f207 := Ybaf.func69.trans (congrArg some (by kernel_rfl))
  f211 := Ybaf.func52.trans (congrArg some (by kernel_rfl))
  t3 := Ybaf.underlying3
  a3 := Ybaf.isAgg3
  z3 := Ybaf.sizeOf3
  v3 := Ybaf.zeroValue3
  t4 := Ybaf.underlying4
  a4 := Ybaf.isAgg4
  z4 := Ybaf.sizeOf4
  v4 := Ybaf.zeroValue4
  t9 := Ybaf.underlying9
  a9 := Ybaf.isAgg9
  z9 := Ybaf.sizeOf9
  v9 := Ybaf.zeroValue9 }
open Go.RowKit in
/-- internal/stringslite.CutSuffix (what strings.CutSuffix calls). (LAID: no walk: one application.) -/
theorem Ybaf.stringslite_CutSuffix (s p : ByteArray) (w : World) (hs : s.size ≤ 9223372036854775807) :
    Calls Ybaf.prog 52 #[.string s, .string p] w fun e w' => e = .returned (.tuple #[.string ⟨(Lib.trimSuffix s.data.toList p.data.toList).toArray⟩, .bool (Lib.hasSuffix s.data.toList p.data.toList)]) ∧ w' = w := Any.stringslite_CutSuffix Ybaf.lays211 s p w hs
def Ybaf.lays104_ren : Go.Shelf.Ren := ⟨fun | 104 => 39 | 211 => 52 | 207 => 69 | n => n, fun | 9 => 9 | 4 => 4 | 24 => 98 | 3 => 3 | n => n, fun | n => n⟩
theorem Ybaf.lays104 : Go.Proofs.Lays.n104 Ybaf.prog Ybaf.lays104_ren := {
  mixed := by kernel_rfl
  f104 := Ybaf.func39.trans (congrArg some (by kernel_rfl))
  f207 := Ybaf.func69.trans (congrArg some (by kernel_rfl))
  f211 := Ybaf.func52.trans (congrArg some (by kernel_rfl))
  t3 := Ybaf.underlying3
  a3 := Ybaf.isAgg3
  z3 := Ybaf.sizeOf3
  v3 := Ybaf.zeroValue3
  t4 := Ybaf.underlying4
  a4 := Ybaf.isAgg4
  z4 := Ybaf.sizeOf4
  v4 := Ybaf.zeroValue4
  t9 := Ybaf.underlying9
  a9 := Ybaf.isAgg9
  z9 := Ybaf.sizeOf9
  v9 := Ybaf.zeroValue9
  t24 := Ybaf.underlying98
  a24 := Ybaf.isAgg98
  z24 := Ybaf.sizeOf98
  v24 := Ybaf.zeroValue98 }
open Go.RowKit in
/-- strings.CutSuffix: "CutSuffix returns s without the provided ending suffix string and reports whether it found the suffix. If s doesn't end with suffix, CutSuffix returns s, false. If suffix is the empty string, CutSuffix returns s, true.": IT RETURNS '(Lib.trimSuffix s p, Lib.hasSuffix s p)'; the world is as it was. (LAID: no walk: one application.) -/
theorem Ybaf.strings_CutSuffix (s p : ByteArray) (w : World) (hs : s.size ≤ 9223372036854775807) :
    Calls Ybaf.prog 39 #[.string s, .string p] w fun e w' => e = .returned (.tuple #[.string ⟨(Lib.trimSuffix s.data.toList p.data.toList).toArray⟩, .bool (Lib.hasSuffix s.data.toList p.data.toList)]) ∧ w' = w := Any.strings_CutSuffix Ybaf.lays104 s p w hs
def Ybaf.lays129_ren : Go.Shelf.Ren := ⟨fun | 129 => 63 | n => n, fun | 53 => 107 | 3 => 3 | 4 => 4 | 46 => 105 | 5 => 5 | 9 => 9 | n => n, fun | n => n⟩
theorem Ybaf.lays129 : Go.Proofs.Lays.n129 Ybaf.prog Ybaf.lays129_ren := {
  mixed := by kernel_rfl
  f129 := Ybaf.func63.trans (congrArg some (by kernel_rfl))
  t3 := Ybaf.underlying3
  a3 := Ybaf.isAgg3
  z3 := Ybaf.sizeOf3
  v3 := Ybaf.zeroValue3
  t4 := Ybaf.underlying4
  a4 := Ybaf.isAgg4
  z4 := Ybaf.sizeOf4
  v4 := Ybaf.zeroValue4
  t5 := Ybaf.underlying5
  a5 := Ybaf.isAgg5
  z5 := Ybaf.sizeOf5
  v5 := Ybaf.zeroValue5
  t9 := Ybaf.underlying9
  a9 := Ybaf.isAgg9
  z9 := Ybaf.sizeOf9
  v9 := Ybaf.zeroValue9
  t46 := Ybaf.underlying105
  a46 := Ybaf.isAgg105
  z46 := Ybaf.sizeOf105
  v46 := Ybaf.zeroValue105
  t53 := Ybaf.underlying107
  a53 := Ybaf.isAgg107
  z53 := Ybaf.sizeOf107
  v53 := Ybaf.zeroValue107 }
/-- bits.Len64: "Len64 returns the minimum number of bits required to represent x; the result is 0 for x == 0.": IT RETURNS 'Lib.bitLen x'; the world is as it was. ('h0', 'h1': x is a uint64.) (LAID: no walk: one application.) -/
theorem Ybaf.bits_Len64 (x : Int) (w : World) (h0 : 0 ≤ x) (h1 : x ≤ 18446744073709551615) :
    Calls Ybaf.prog 63 #[.int .u64 x] w fun e w' => e = .returned (.int .i64 (Lib.bitLen x.toNat)) ∧ w' = w := Any.bits_Len64 Ybaf.lays129 x w h0 h1
def Ybaf.lays317_ren : Go.Shelf.Ren := ⟨fun | 317 => 65 | n => n, fun | 3 => 3 | 46 => 105 | n => n, fun | n => n⟩
theorem Ybaf.lays317 : Go.Proofs.Lays.n317 Ybaf.prog Ybaf.lays317_ren := {
  mixed := by kernel_rfl
  f317 := Ybaf.func65.trans (congrArg some (by kernel_rfl))
  t3 := Ybaf.underlying3
  a3 := Ybaf.isAgg3
  z3 := Ybaf.sizeOf3
  v3 := Ybaf.zeroValue3
  t46 := Ybaf.underlying105
  a46 := Ybaf.isAgg105
  z46 := Ybaf.sizeOf105
  v46 := Ybaf.zeroValue105 }
open Go.Lib in
/-- internal/strconv.log10Pow2: "log10Pow2(x) returns ⌊log₁₀ 2**x⌋ = ⌊x * log₁₀ 2⌋.": '(x * 78913) >> 18', at an x up to 64 (a length in bits). The world is as it was. (LAID: no walk: one application.) -/
theorem Ybaf.internal_strconv_log10Pow2 (x : Nat) (h : x ≤ 64) (w : World) :
    Calls Ybaf.prog 65 #[.int .i64 x] w fun e w' => e = .returned (.int .i64 (Lib.l10 x)) ∧ w' = w := Any.internal_strconv_log10Pow2 Ybaf.lays317 x h w
def Ybaf.lays318_ren : Go.Shelf.Ren := ⟨fun | 318 => 66 | n => n, fun | 3 => 3 | 4 => 4 | n => n, fun | n => n⟩
theorem Ybaf.lays318 : Go.Proofs.Lays.n318 Ybaf.prog Ybaf.lays318_ren := {
  mixed := by kernel_rfl
  f318 := Ybaf.func66.trans (congrArg some (by kernel_rfl))
  t3 := Ybaf.underlying3
  a3 := Ybaf.isAgg3
  z3 := Ybaf.sizeOf3
  v3 := Ybaf.zeroValue3
  t4 := Ybaf.underlying4
  a4 := Ybaf.isAgg4
  z4 := Ybaf.sizeOf4
  v4 := Ybaf.zeroValue4 }
open Go.Lib in
/-- internal/strconv.bool2: "bool2 converts b to an integer: 1 for true, 0 for false." The world is as it was. (LAID: no walk: one application.) -/
theorem Ybaf.internal_strconv_bool2_int (b : Bool) (w : World) :
    Calls Ybaf.prog 66 #[.bool b] w fun e w' => e = .returned (.int .i64 (if b then 1 else 0)) ∧ w' = w := Any.internal_strconv_bool2_int Ybaf.lays318 b w
def Ybaf.lays283_ren : Go.Shelf.Ren := ⟨fun | 283 => 46 | n => n, fun | 3 => 3 | 9 => 9 | 4 => 4 | n => n, fun | n => n⟩
theorem Ybaf.lays283 : Go.Proofs.Lays.n283 Ybaf.prog Ybaf.lays283_ren := {
  mixed := by kernel_rfl
  f283 := Ybaf.func46.trans (congrArg some (by kernel_rfl))
  t3 := Ybaf.underlying3
  a3 := Ybaf.isAgg3
  z3 := Ybaf.sizeOf3
  v3 := Ybaf.zeroValue3
  t4 := Ybaf.underlying4
  a4 := Ybaf.isAgg4
  z4 := Ybaf.sizeOf4
  v4 := Ybaf.zeroValue4
  t9 := Ybaf.underlying9
  a9 := Ybaf.isAgg9
  z9 := Ybaf.sizeOf9
  v9 := Ybaf.zeroValue9 }
open Go.Lib in
/-- internal/strconv.small: "small returns the string for an i with 0 <= i < nSmalls.": i's decimal numeral. The world is as it was. (LAID: no walk: one application.) -/
theorem Ybaf.internal_strconv_small (i : Nat) (h : i < 100) (w : World) :
    Calls Ybaf.prog 46 #[.int .i64 i] w fun e w' => e = .returned (.string ⟨(Lib.decDigits i).toArray⟩) ∧ w' = w := Any.internal_strconv_small Ybaf.lays283 i h w
def Ybaf.laysM284_ren : Go.Shelf.Ren := ⟨fun | 284 => 47 | 129 => 63 | 317 => 65 | 318 => 66 | n => n, fun | 53 => 107 | 3 => 3 | 212 => 128 | 0 => 0 | 4 => 4 | 46 => 105 | 5 => 5 | 9 => 9 | n => n, fun | 17 => 2 | n => n⟩
theorem Ybaf.laysM284 : Go.Proofs.LaysM.n284 Ybaf.prog Ybaf.laysM284_ren := {
  mixed := by kernel_rfl
  f129 := Ybaf.func63.trans (congrArg some (by kernel_rfl))
  f284 := Ybaf.func47.trans (congrArg some (by kernel_rfl))
  f317 := Ybaf.func65.trans (congrArg some (by kernel_rfl))
  f318 := Ybaf.func66.trans (congrArg some (by kernel_rfl))
  t0 := Ybaf.underlying0
  a0 := Ybaf.isAgg0
  z0 := Ybaf.sizeOf0
  v0 := Ybaf.zeroValue0
  t3 := Ybaf.underlying3
  a3 := Ybaf.isAgg3
  z3 := Ybaf.sizeOf3
  v3 := Ybaf.zeroValue3
  t4 := Ybaf.underlying4
  a4 := Ybaf.isAgg4
  z4 := Ybaf.sizeOf4
  v4 := Ybaf.zeroValue4
  t5 := Ybaf.underlying5
  a5 := Ybaf.isAgg5
  z5 := Ybaf.sizeOf5
  v5 := Ybaf.zeroValue5
  t9 := Ybaf.underlying9
  a9 := Ybaf.isAgg9
  z9 := Ybaf.sizeOf9
  v9 := Ybaf.zeroValue9
  t46 := Ybaf.underlying105
  a46 := Ybaf.isAgg105
  z46 := Ybaf.sizeOf105
  v46 := Ybaf.zeroValue105
  t53 := Ybaf.underlying107
  a53 := Ybaf.isAgg107
  z53 := Ybaf.sizeOf107
  v53 := Ybaf.zeroValue107
  t212 := Ybaf.underlying128
  a212 := Ybaf.isAgg128
  z212 := Ybaf.sizeOf128
  v212 := Ybaf.zeroValue128
  g17 := by kernel_rfl
  i0 := by kernel_rfl
  i3 := by kernel_rfl
  i4 := by kernel_rfl
  i5 := by kernel_rfl
  i9 := by kernel_rfl
  i46 := by kernel_rfl
  i53 := by kernel_rfl
  i212 := by kernel_rfl
  m17 := by kernel_rfl }
open Go.Lib in
/-- internal/strconv.numDigits, at a d that is not 0: THE NUMBER OF d's DECIMAL DIGITS. The world is as it was. (LAID: no walk: one application.) -/
theorem Ybaf.internal_strconv_numDigits (u : Nat) (h1 : 1 ≤ u) (h2 : u < 18446744073709551616) (w : World) (htab : Lib.TabIs Ybaf.prog w "internal/strconv.uint64pow10" .u64 Lib.pow10Tab) :
    Calls Ybaf.prog 47 #[.int .u64 u] w fun e w' => e = .returned (.int .i64 (Lib.nDigits u)) ∧ w' = w := Any.internal_strconv_numDigits Ybaf.laysM284 u h1 h2 w htab
def Ybaf.lays285_ren : Go.Shelf.Ren := ⟨fun | 285 => 48 | n => n, fun | 37 => 24 | 53 => 107 | 3 => 3 | 4 => 4 | 51 => 125 | 9 => 9 | 5 => 5 | 0 => 0 | n => n, fun | n => n⟩
theorem Ybaf.lays285 : Go.Proofs.Lays.n285 Ybaf.prog Ybaf.lays285_ren := {
  mixed := by kernel_rfl
  f285 := Ybaf.func48.trans (congrArg some (by kernel_rfl))
  t0 := Ybaf.underlying0
  a0 := Ybaf.isAgg0
  z0 := Ybaf.sizeOf0
  v0 := Ybaf.zeroValue0
  t3 := Ybaf.underlying3
  a3 := Ybaf.isAgg3
  z3 := Ybaf.sizeOf3
  v3 := Ybaf.zeroValue3
  t4 := Ybaf.underlying4
  a4 := Ybaf.isAgg4
  z4 := Ybaf.sizeOf4
  v4 := Ybaf.zeroValue4
  t5 := Ybaf.underlying5
  a5 := Ybaf.isAgg5
  z5 := Ybaf.sizeOf5
  v5 := Ybaf.zeroValue5
  t9 := Ybaf.underlying9
  a9 := Ybaf.isAgg9
  z9 := Ybaf.sizeOf9
  v9 := Ybaf.zeroValue9
  t37 := Ybaf.underlying24
  a37 := Ybaf.isAgg24
  z37 := Ybaf.sizeOf24
  v37 := Ybaf.zeroValue24
  t51 := Ybaf.underlying125
  a51 := Ybaf.isAgg125
  z51 := Ybaf.sizeOf125
  v51 := Ybaf.zeroValue125
  t53 := Ybaf.underlying107
  a53 := Ybaf.isAgg107
  z53 := Ybaf.sizeOf107
  v53 := Ybaf.zeroValue107 }
open Go.RowKit Go.Sort Go.Lib in
/-- internal/strconv.formatBase10: "formatBase10 formats the decimal representation of u into a. The caller is responsible for ensuring that a is big enough to hold u. If a is too big, leading zeros will be filled in as needed.": THE ROW HOLDS u's DIGITS ('FmtInv .. 0 ..': every place t holds 'dg u (len - 1 - t)'); all else is as it was but for the count of draws. (LAID: no walk: one application.) -/
theorem Ybaf.internal_strconv_formatBase10 (blk off cap : Nat) (u : Nat) (d : Array UInt8) (w : World) (hH : Holds (fun (b : UInt8) => Value.int .u8 (b.toNat : Int)) w blk off d) (hu : u < 10 ^ d.size) (hu64 : u < 18446744073709551616) (hsz : d.size < 4611686018427387904) :
    Calls Ybaf.prog 48 #[.slice (some ⟨blk, off, none⟩) d.size cap, .int .u64 u] w fun e w' =>
      e = .returned (.tuple #[]) ∧ ∃ (n v' : Nat) (dk : Array UInt8), w' = (putRow (fun (b : UInt8) => Value.int .u8 (b.toNat : Int)) w blk off dk).drewN n ∧ FmtInv d.size u 0 v' dk := Any.internal_strconv_formatBase10 Ybaf.lays285 blk off cap u d w hH hu hu64 hsz
def Ybaf.laysM246_ren : Go.Shelf.Ren := ⟨fun | 246 => 36 | 283 => 46 | 284 => 47 | 285 => 48 | 286 => 49 | 129 => 63 | 317 => 65 | 318 => 66 | 319 => 67 | 320 => 68 | 337 => 75 | 338 => 76 | n => n, fun | 2 => 2 | 3 => 3 | 9 => 9 | 4 => 4 | 171 => 106 | 0 => 0 | 53 => 107 | 37 => 24 | 5 => 5 | 173 => 110 | 212 => 128 | 51 => 125 | 20 => 20 | 213 => 129 | 46 => 105 | 232 => 141 | 233 => 142 | n => n, fun | 17 => 2 | 18 => 3 | 19 => 4 | n => n⟩
theorem Ybaf.laysM246 : Go.Proofs.LaysM.n246 Ybaf.prog Ybaf.laysM246_ren := {
  mixed := by kernel_rfl
  f129 := Ybaf.func63.trans (congrArg some (by kernel_rfl))
  f246 := Ybaf.func36.trans (congrArg some (by kernel_rfl))
  f283 := Ybaf.func46.trans (congrArg some (by kernel_rfl))
  f284 := Ybaf.func47.trans (congrArg some (by kernel_rfl))
  f285 := Ybaf.func48.trans (congrArg some (by kernel_rfl))
  f286 := Ybaf.func49.trans (congrArg some (by kernel_rfl))
  f317 := Ybaf.func65.trans (congrArg some (by kernel_rfl))
  f318 := Ybaf.func66.trans (congrArg some (by kernel_rfl))
  f319 := Ybaf.func67.trans (congrArg some (by kernel_rfl))
  f320 := Ybaf.func68.trans (congrArg some (by kernel_rfl))
  f337 := Ybaf.func75.trans (congrArg some (by kernel_rfl))
  f338 := Ybaf.func76.trans (congrArg some (by kernel_rfl))
  t0 := Ybaf.underlying0
  a0 := Ybaf.isAgg0
  z0 := Ybaf.sizeOf0
  v0 := Ybaf.zeroValue0
  t2 := Ybaf.underlying2
  a2 := Ybaf.isAgg2
  z2 := Ybaf.sizeOf2
  v2 := Ybaf.zeroValue2
  t3 := Ybaf.underlying3
  a3 := Ybaf.isAgg3
  z3 := Ybaf.sizeOf3
  v3 := Ybaf.zeroValue3
  t4 := Ybaf.underlying4
  a4 := Ybaf.isAgg4
  z4 := Ybaf.sizeOf4
  v4 := Ybaf.zeroValue4
  t5 := Ybaf.underlying5
  a5 := Ybaf.isAgg5
  z5 := Ybaf.sizeOf5
  v5 := Ybaf.zeroValue5
  t9 := Ybaf.underlying9
  a9 := Ybaf.isAgg9
  z9 := Ybaf.sizeOf9
  v9 := Ybaf.zeroValue9
  t20 := Ybaf.underlying20
  a20 := Ybaf.isAgg20
  z20 := Ybaf.sizeOf20
  v20 := Ybaf.zeroValue20
  t37 := Ybaf.underlying24
  a37 := Ybaf.isAgg24
  z37 := Ybaf.sizeOf24
  v37 := Ybaf.zeroValue24
  t46 := Ybaf.underlying105
  a46 := Ybaf.isAgg105
  z46 := Ybaf.sizeOf105
  v46 := Ybaf.zeroValue105
  t51 := Ybaf.underlying125
  a51 := Ybaf.isAgg125
  z51 := Ybaf.sizeOf125
  v51 := Ybaf.zeroValue125
  t53 := Ybaf.underlying107
  a53 := Ybaf.isAgg107
  z53 := Ybaf.sizeOf107
  v53 := Ybaf.zeroValue107
  t171 := Ybaf.underlying106
  a171 := Ybaf.isAgg106
  z171 := Ybaf.sizeOf106
  v171 := Ybaf.zeroValue106
  t173 := Ybaf.underlying110
  a173 := Ybaf.isAgg110
  z173 := Ybaf.sizeOf110
  v173 := Ybaf.zeroValue110
  t212 := Ybaf.underlying128
  a212 := Ybaf.isAgg128
  z212 := Ybaf.sizeOf128
  v212 := Ybaf.zeroValue128
  t213 := Ybaf.underlying129
  a213 := Ybaf.isAgg129
  z213 := Ybaf.sizeOf129
  t232 := Ybaf.underlying141
  a232 := Ybaf.isAgg141
  z232 := Ybaf.sizeOf141
  v232 := Ybaf.zeroValue141
  t233 := Ybaf.underlying142
  a233 := Ybaf.isAgg142
  z233 := Ybaf.sizeOf142
  v233 := Ybaf.zeroValue142
  g17 := by kernel_rfl
  g18 := by kernel_rfl
  g19 := by kernel_rfl
  i0 := by kernel_rfl
  i2 := by kernel_rfl
  i3 := by kernel_rfl
  i4 := by kernel_rfl
  i5 := by kernel_rfl
  i9 := by kernel_rfl
  i20 := by kernel_rfl
  i37 := by kernel_rfl
  i46 := by kernel_rfl
  i51 := by kernel_rfl
  i53 := by kernel_rfl
  i171 := by kernel_rfl
  i173 := by kernel_rfl
  i212 := by kernel_rfl
  i232 := by kernel_rfl
  i233 := by kernel_rfl
  m17 := by kernel_rfl
  m18 := by kernel_rfl
  m19 := by kernel_rfl }
open Go.RowKit Go.Sort Go.Lib in
/-- internal/strconv.FormatInt: "FormatInt returns the string representation of i in the given base": AT BASE 10: i's decimal numeral, for every int64. The world behind the call: the world before it, new blocks behind the heap, draws. (LAID: no walk: one application.) -/
theorem Ybaf.internal_strconv_FormatInt_10 (n : Int) (h0 : -9223372036854775808 ≤ n) (h1 : n ≤ 9223372036854775807) (w : World) (htab : Lib.TabIs Ybaf.prog w "internal/strconv.uint64pow10" .u64 Lib.pow10Tab) :
    Calls Ybaf.prog 36 #[.int .i64 n, .int .i64 10] w fun e w' => e = .returned (.string ⟨(Lib.itoa n).toArray⟩) ∧ ∃ k os, w' = grow (w.drewN k) os := Any.internal_strconv_FormatInt_10 Ybaf.laysM246 n h0 h1 w htab
def Ybaf.lays246_ren : Go.Shelf.Ren := ⟨fun | 246 => 36 | 283 => 46 | 284 => 47 | 285 => 48 | 286 => 49 | 129 => 63 | 317 => 65 | 318 => 66 | 319 => 67 | 320 => 68 | 337 => 75 | 338 => 76 | n => n, fun | 2 => 2 | 3 => 3 | 9 => 9 | 4 => 4 | 171 => 106 | 0 => 0 | 53 => 107 | 37 => 24 | 5 => 5 | 173 => 110 | 212 => 128 | 51 => 125 | 20 => 20 | 213 => 129 | 46 => 105 | 232 => 141 | 233 => 142 | n => n, fun | 17 => 2 | 18 => 3 | 19 => 4 | n => n⟩
theorem Ybaf.lays246 : Go.Proofs.Lays.n246 Ybaf.prog Ybaf.lays246_ren := {
  mixed := by kernel_rfl
  f129 := Ybaf.func63.trans (congrArg some (by kernel_rfl))
  f246 := Ybaf.func36.trans (congrArg some (by kernel_rfl))
  f283 := Ybaf.func46.trans (congrArg some (by kernel_rfl))
  f284 := Ybaf.func47.trans (congrArg some (by kernel_rfl))
  f285 := Ybaf.func48.trans (congrArg some (by kernel_rfl))
  f286 := Ybaf.func49.trans (congrArg some (by kernel_rfl))
  f317 := Ybaf.func65.trans (congrArg some (by kernel_rfl))
  f318 := Ybaf.func66.trans (congrArg some (by kernel_rfl))
  f319 := Ybaf.func67.trans (congrArg some (by kernel_rfl))
  f320 := Ybaf.func68.trans (congrArg some (by kernel_rfl))
  f337 := Ybaf.func75.trans (congrArg some (by kernel_rfl))
  f338 := Ybaf.func76.trans (congrArg some (by kernel_rfl))
  t0 := Ybaf.underlying0
  a0 := Ybaf.isAgg0
  z0 := Ybaf.sizeOf0
  v0 := Ybaf.zeroValue0
  t2 := Ybaf.underlying2
  a2 := Ybaf.isAgg2
  z2 := Ybaf.sizeOf2
  v2 := Ybaf.zeroValue2
  t3 := Ybaf.underlying3
  a3 := Ybaf.isAgg3
  z3 := Ybaf.sizeOf3
  v3 := Ybaf.zeroValue3
  t4 := Ybaf.underlying4
  a4 := Ybaf.isAgg4
  z4 := Ybaf.sizeOf4
  v4 := Ybaf.zeroValue4
  t5 := Ybaf.underlying5
  a5 := Ybaf.isAgg5
  z5 := Ybaf.sizeOf5
  v5 := Ybaf.zeroValue5
  t9 := Ybaf.underlying9
  a9 := Ybaf.isAgg9
  z9 := Ybaf.sizeOf9
  v9 := Ybaf.zeroValue9
  t20 := Ybaf.underlying20
  a20 := Ybaf.isAgg20
  z20 := Ybaf.sizeOf20
  v20 := Ybaf.zeroValue20
  t37 := Ybaf.underlying24
  a37 := Ybaf.isAgg24
  z37 := Ybaf.sizeOf24
  v37 := Ybaf.zeroValue24
  t46 := Ybaf.underlying105
  a46 := Ybaf.isAgg105
  z46 := Ybaf.sizeOf105
  v46 := Ybaf.zeroValue105
  t51 := Ybaf.underlying125
  a51 := Ybaf.isAgg125
  z51 := Ybaf.sizeOf125
  v51 := Ybaf.zeroValue125
  t53 := Ybaf.underlying107
  a53 := Ybaf.isAgg107
  z53 := Ybaf.sizeOf107
  v53 := Ybaf.zeroValue107
  t171 := Ybaf.underlying106
  a171 := Ybaf.isAgg106
  z171 := Ybaf.sizeOf106
  v171 := Ybaf.zeroValue106
  t173 := Ybaf.underlying110
  a173 := Ybaf.isAgg110
  z173 := Ybaf.sizeOf110
  v173 := Ybaf.zeroValue110
  t212 := Ybaf.underlying128
  a212 := Ybaf.isAgg128
  z212 := Ybaf.sizeOf128
  v212 := Ybaf.zeroValue128
  t213 := Ybaf.underlying129
  a213 := Ybaf.isAgg129
  z213 := Ybaf.sizeOf129
  t232 := Ybaf.underlying141
  a232 := Ybaf.isAgg141
  z232 := Ybaf.sizeOf141
  v232 := Ybaf.zeroValue141
  t233 := Ybaf.underlying142
  a233 := Ybaf.isAgg142
  z233 := Ybaf.sizeOf142
  v233 := Ybaf.zeroValue142
  g17 := by kernel_rfl
  g18 := by kernel_rfl
  g19 := by kernel_rfl }
open Go.RowKit Go.Sort Go.Lib in
/-- THE ROAD WITHOUT THE TABLE: 0 <= i < 100: two constants are read, nothing is laid: no premise on the world, and the world is as it was. (LAID: no walk: one application.) -/
theorem Ybaf.internal_strconv_FormatInt_10_small (i : Nat) (hi : i < 100) (w : World) :
    Calls Ybaf.prog 36 #[.int .i64 i, .int .i64 10] w fun e w' => e = .returned (.string ⟨(Lib.decDigits i).toArray⟩) ∧ w' = w := Any.internal_strconv_FormatInt_10_small Ybaf.lays246 i hi w
def Ybaf.laysM243_ren : Go.Shelf.Ren := ⟨fun | 243 => 20 | 246 => 36 | 283 => 46 | 284 => 47 | 285 => 48 | 286 => 49 | 129 => 63 | 317 => 65 | 318 => 66 | 319 => 67 | 320 => 68 | 337 => 75 | 338 => 76 | n => n, fun | 3 => 3 | 9 => 9 | 2 => 2 | 4 => 4 | 171 => 106 | 0 => 0 | 53 => 107 | 37 => 24 | 5 => 5 | 173 => 110 | 212 => 128 | 51 => 125 | 20 => 20 | 213 => 129 | 46 => 105 | 232 => 141 | 233 => 142 | n => n, fun | 17 => 2 | 18 => 3 | 19 => 4 | n => n⟩
theorem Ybaf.laysM243 : Go.Proofs.LaysM.n243 Ybaf.prog Ybaf.laysM243_ren := {
  mixed := by kernel_rfl
  f129 := Ybaf.func63.trans (congrArg some (by kernel_rfl))
  f243 := Ybaf.func20.trans (congrArg some (by kernel_rfl))
  f246 := Ybaf.func36.trans (congrArg some (by kernel_rfl))
  f283 := Ybaf.func46.trans (congrArg some (by kernel_rfl))
  f284 := Ybaf.func47.trans (congrArg some (by kernel_rfl))
  f285 := Ybaf.func48.trans (congrArg some (by kernel_rfl))
  f286 := Ybaf.func49.trans (congrArg some (by kernel_rfl))
  f317 := Ybaf.func65.trans (congrArg some (by kernel_rfl))
  f318 := Ybaf.func66.trans (congrArg some (by kernel_rfl))
  f319 := Ybaf.func67.trans (congrArg some (by kernel_rfl))
  f320 := Ybaf.func68.trans (congrArg some (by kernel_rfl))
  f337 := Ybaf.func75.trans (congrArg some (by kernel_rfl))
  f338 := Ybaf.func76.trans (congrArg some (by kernel_rfl))
  t0 := Ybaf.underlying0
  a0 := Ybaf.isAgg0
  z0 := Ybaf.sizeOf0
  v0 := Ybaf.zeroValue0
  t2 := Ybaf.underlying2
  a2 := Ybaf.isAgg2
  z2 := Ybaf.sizeOf2
  v2 := Ybaf.zeroValue2
  t3 := Ybaf.underlying3
  a3 := Ybaf.isAgg3
  z3 := Ybaf.sizeOf3
  v3 := Ybaf.zeroValue3
  t4 := Ybaf.underlying4
  a4 := Ybaf.isAgg4
  z4 := Ybaf.sizeOf4
  v4 := Ybaf.zeroValue4
  t5 := Ybaf.underlying5
  a5 := Ybaf.isAgg5
  z5 := Ybaf.sizeOf5
  v5 := Ybaf.zeroValue5
  t9 := Ybaf.underlying9
  a9 := Ybaf.isAgg9
  z9 := Ybaf.sizeOf9
  v9 := Ybaf.zeroValue9
  t20 := Ybaf.underlying20
  a20 := Ybaf.isAgg20
  z20 := Ybaf.sizeOf20
  v20 := Ybaf.zeroValue20
  t37 := Ybaf.underlying24
  a37 := Ybaf.isAgg24
  z37 := Ybaf.sizeOf24
  v37 := Ybaf.zeroValue24
  t46 := Ybaf.underlying105
  a46 := Ybaf.isAgg105
  z46 := Ybaf.sizeOf105
  v46 := Ybaf.zeroValue105
  t51 := Ybaf.underlying125
  a51 := Ybaf.isAgg125
  z51 := Ybaf.sizeOf125
  v51 := Ybaf.zeroValue125
  t53 := Ybaf.underlying107
  a53 := Ybaf.isAgg107
  z53 := Ybaf.sizeOf107
  v53 := Ybaf.zeroValue107
  t171 := Ybaf.underlying106
  a171 := Ybaf.isAgg106
  z171 := Ybaf.sizeOf106
  v171 := Ybaf.zeroValue106
  t173 := Ybaf.underlying110
  a173 := Ybaf.isAgg110
  z173 := Ybaf.sizeOf110
  v173 := Ybaf.zeroValue110
  t212 := Ybaf.underlying128
  a212 := Ybaf.isAgg128
  z212 := Ybaf.sizeOf128
  v212 := Ybaf.zeroValue128
  t213 := Ybaf.underlying129
  a213 := Ybaf.isAgg129
  z213 := Ybaf.sizeOf129
  t232 := Ybaf.underlying141
  a232 := Ybaf.isAgg141
  z232 := Ybaf.sizeOf141
  v232 := Ybaf.zeroValue141
  t233 := Ybaf.underlying142
  a233 := Ybaf.isAgg142
  z233 := Ybaf.sizeOf142
  v233 := Ybaf.zeroValue142
  g17 := by kernel_rfl
  g18 := by kernel_rfl
  g19 := by kernel_rfl
  i0 := by kernel_rfl
  i2 := by kernel_rfl
  i3 := by kernel_rfl
  i4 := by kernel_rfl
  i5 := by kernel_rfl
  i9 := by kernel_rfl
  i20 := by kernel_rfl
  i37 := by kernel_rfl
  i46 := by kernel_rfl
  i51 := by kernel_rfl
  i53 := by kernel_rfl
  i171 := by kernel_rfl
  i173 := by kernel_rfl
  i212 := by kernel_rfl
  i232 := by kernel_rfl
  i233 := by kernel_rfl
  m17 := by kernel_rfl
  m18 := by kernel_rfl
  m19 := by kernel_rfl }
open Go.RowKit Go.Sort Go.Lib in
/-- internal/strconv.Itoa: "Itoa is equivalent to FormatInt(int64(i), 10).": i's decimal numeral, for every int. (LAID: no walk: one application.) -/
theorem Ybaf.internal_strconv_Itoa (n : Int) (h0 : -9223372036854775808 ≤ n) (h1 : n ≤ 9223372036854775807) (w : World) (htab : Lib.TabIs Ybaf.prog w "internal/strconv.uint64pow10" .u64 Lib.pow10Tab) :
    Calls Ybaf.prog 20 #[.int .i64 n] w fun e w' => e = .returned (.string ⟨(Lib.itoa n).toArray⟩) ∧ ∃ k os, w' = grow (w.drewN k) os := Any.internal_strconv_Itoa Ybaf.laysM243 n h0 h1 w htab
def Ybaf.lays243_ren : Go.Shelf.Ren := ⟨fun | 243 => 20 | 246 => 36 | 283 => 46 | 284 => 47 | 285 => 48 | 286 => 49 | 129 => 63 | 317 => 65 | 318 => 66 | 319 => 67 | 320 => 68 | 337 => 75 | 338 => 76 | n => n, fun | 3 => 3 | 9 => 9 | 2 => 2 | 4 => 4 | 171 => 106 | 0 => 0 | 53 => 107 | 37 => 24 | 5 => 5 | 173 => 110 | 212 => 128 | 51 => 125 | 20 => 20 | 213 => 129 | 46 => 105 | 232 => 141 | 233 => 142 | n => n, fun | 17 => 2 | 18 => 3 | 19 => 4 | n => n⟩
theorem Ybaf.lays243 : Go.Proofs.Lays.n243 Ybaf.prog Ybaf.lays243_ren := {
  mixed := by kernel_rfl
  f129 := Ybaf.func63.trans (congrArg some (by kernel_rfl))
  f243 := Ybaf.func20.trans (congrArg some (by kernel_rfl))
  f246 := Ybaf.func36.trans (congrArg some (by kernel_rfl))
  f283 := Ybaf.func46.trans (congrArg some (by kernel_rfl))
  f284 := Ybaf.func47.trans (congrArg some (by kernel_rfl))
  f285 := Ybaf.func48.trans (congrArg some (by kernel_rfl))
  f286 := Ybaf.func49.trans (congrArg some (by kernel_rfl))
  f317 := Ybaf.func65.trans (congrArg some (by kernel_rfl))
  f318 := Ybaf.func66.trans (congrArg some (by kernel_rfl))
  f319 := Ybaf.func67.trans (congrArg some (by kernel_rfl))
  f320 := Ybaf.func68.trans (congrArg some (by kernel_rfl))
  f337 := Ybaf.func75.trans (congrArg some (by kernel_rfl))
  f338 := Ybaf.func76.trans (congrArg some (by kernel_rfl))
  t0 := Ybaf.underlying0
  a0 := Ybaf.isAgg0
  z0 := Ybaf.sizeOf0
  v0 := Ybaf.zeroValue0
  t2 := Ybaf.underlying2
  a2 := Ybaf.isAgg2
  z2 := Ybaf.sizeOf2
  v2 := Ybaf.zeroValue2
  t3 := Ybaf.underlying3
  a3 := Ybaf.isAgg3
  z3 := Ybaf.sizeOf3
  v3 := Ybaf.zeroValue3
  t4 := Ybaf.underlying4
  a4 := Ybaf.isAgg4
  z4 := Ybaf.sizeOf4
  v4 := Ybaf.zeroValue4
  t5 := Ybaf.underlying5
  a5 := Ybaf.isAgg5
  z5 := Ybaf.sizeOf5
  v5 := Ybaf.zeroValue5
  t9 := Ybaf.underlying9
  a9 := Ybaf.isAgg9
  z9 := Ybaf.sizeOf9
  v9 := Ybaf.zeroValue9
  t20 := Ybaf.underlying20
  a20 := Ybaf.isAgg20
  z20 := Ybaf.sizeOf20
  v20 := Ybaf.zeroValue20
  t37 := Ybaf.underlying24
  a37 := Ybaf.isAgg24
  z37 := Ybaf.sizeOf24
  v37 := Ybaf.zeroValue24
  t46 := Ybaf.underlying105
  a46 := Ybaf.isAgg105
  z46 := Ybaf.sizeOf105
  v46 := Ybaf.zeroValue105
  t51 := Ybaf.underlying125
  a51 := Ybaf.isAgg125
  z51 := Ybaf.sizeOf125
  v51 := Ybaf.zeroValue125
  t53 := Ybaf.underlying107
  a53 := Ybaf.isAgg107
  z53 := Ybaf.sizeOf107
  v53 := Ybaf.zeroValue107
  t171 := Ybaf.underlying106
  a171 := Ybaf.isAgg106
  z171 := Ybaf.sizeOf106
  v171 := Ybaf.zeroValue106
  t173 := Ybaf.underlying110
  a173 := Ybaf.isAgg110
  z173 := Ybaf.sizeOf110
  v173 := Ybaf.zeroValue110
  t212 := Ybaf.underlying128
  a212 := Ybaf.isAgg128
  z212 := Ybaf.sizeOf128
  v212 := Ybaf.zeroValue128
  t213 := Ybaf.underlying129
  a213 := Ybaf.isAgg129
  z213 := Ybaf.sizeOf129
  t232 := Ybaf.underlying141
  a232 := Ybaf.isAgg141
  z232 := Ybaf.sizeOf141
  v232 := Ybaf.zeroValue141
  t233 := Ybaf.underlying142
  a233 := Ybaf.isAgg142
  z233 := Ybaf.sizeOf142
  v233 := Ybaf.zeroValue142
  g17 := by kernel_rfl
  g18 := by kernel_rfl
  g19 := by kernel_rfl }
open Go.RowKit Go.Sort Go.Lib in
/-- THE ROAD WITHOUT THE TABLE: 0 <= i < 100. (LAID: no walk: one application.) -/
theorem Ybaf.internal_strconv_Itoa_small (i : Nat) (hi : i < 100) (w : World) :
    Calls Ybaf.prog 20 #[.int .i64 i] w fun e w' => e = .returned (.string ⟨(Lib.decDigits i).toArray⟩) ∧ w' = w := Any.internal_strconv_Itoa_small Ybaf.lays243 i hi w
def Ybaf.laysM171_ren : Go.Shelf.Ren := ⟨fun | 171 => 9 | 243 => 20 | 246 => 36 | 283 => 46 | 284 => 47 | 285 => 48 | 286 => 49 | 129 => 63 | 317 => 65 | 318 => 66 | 319 => 67 | 320 => 68 | 337 => 75 | 338 => 76 | n => n, fun | 3 => 3 | 9 => 9 | 2 => 2 | 4 => 4 | 171 => 106 | 0 => 0 | 53 => 107 | 37 => 24 | 5 => 5 | 173 => 110 | 212 => 128 | 51 => 125 | 20 => 20 | 213 => 129 | 46 => 105 | 232 => 141 | 233 => 142 | n => n, fun | 17 => 2 | 18 => 3 | 19 => 4 | n => n⟩
theorem Ybaf.laysM171 : Go.Proofs.LaysM.n171 Ybaf.prog Ybaf.laysM171_ren := {
  mixed := by kernel_rfl
  f129 := Ybaf.func63.trans (congrArg some (by kernel_rfl))
  f171 := Ybaf.func9.trans (congrArg some (by kernel_rfl))
  f243 := Ybaf.func20.trans (congrArg some (by kernel_rfl))
  f246 := Ybaf.func36.trans (congrArg some (by kernel_rfl))
  f283 := Ybaf.func46.trans (congrArg some (by kernel_rfl))
  f284 := Ybaf.func47.trans (congrArg some (by kernel_rfl))
  f285 := Ybaf.func48.trans (congrArg some (by kernel_rfl))
  f286 := Ybaf.func49.trans (congrArg some (by kernel_rfl))
  f317 := Ybaf.func65.trans (congrArg some (by kernel_rfl))
  f318 := Ybaf.func66.trans (congrArg some (by kernel_rfl))
  f319 := Ybaf.func67.trans (congrArg some (by kernel_rfl))
  f320 := Ybaf.func68.trans (congrArg some (by kernel_rfl))
  f337 := Ybaf.func75.trans (congrArg some (by kernel_rfl))
  f338 := Ybaf.func76.trans (congrArg some (by kernel_rfl))
  t0 := Ybaf.underlying0
  a0 := Ybaf.isAgg0
  z0 := Ybaf.sizeOf0
  v0 := Ybaf.zeroValue0
  t2 := Ybaf.underlying2
  a2 := Ybaf.isAgg2
  z2 := Ybaf.sizeOf2
  v2 := Ybaf.zeroValue2
  t3 := Ybaf.underlying3
  a3 := Ybaf.isAgg3
  z3 := Ybaf.sizeOf3
  v3 := Ybaf.zeroValue3
  t4 := Ybaf.underlying4
  a4 := Ybaf.isAgg4
  z4 := Ybaf.sizeOf4
  v4 := Ybaf.zeroValue4
  t5 := Ybaf.underlying5
  a5 := Ybaf.isAgg5
  z5 := Ybaf.sizeOf5
  v5 := Ybaf.zeroValue5
  t9 := Ybaf.underlying9
  a9 := Ybaf.isAgg9
  z9 := Ybaf.sizeOf9
  v9 := Ybaf.zeroValue9
  t20 := Ybaf.underlying20
  a20 := Ybaf.isAgg20
  z20 := Ybaf.sizeOf20
  v20 := Ybaf.zeroValue20
  t37 := Ybaf.underlying24
  a37 := Ybaf.isAgg24
  z37 := Ybaf.sizeOf24
  v37 := Ybaf.zeroValue24
  t46 := Ybaf.underlying105
  a46 := Ybaf.isAgg105
  z46 := Ybaf.sizeOf105
  v46 := Ybaf.zeroValue105
  t51 := Ybaf.underlying125
  a51 := Ybaf.isAgg125
  z51 := Ybaf.sizeOf125
  v51 := Ybaf.zeroValue125
  t53 := Ybaf.underlying107
  a53 := Ybaf.isAgg107
  z53 := Ybaf.sizeOf107
  v53 := Ybaf.zeroValue107
  t171 := Ybaf.underlying106
  a171 := Ybaf.isAgg106
  z171 := Ybaf.sizeOf106
  v171 := Ybaf.zeroValue106
  t173 := Ybaf.underlying110
  a173 := Ybaf.isAgg110
  z173 := Ybaf.sizeOf110
  v173 := Ybaf.zeroValue110
  t212 := Ybaf.underlying128
  a212 := Ybaf.isAgg128
  z212 := Ybaf.sizeOf128
  v212 := Ybaf.zeroValue128
  t213 := Ybaf.underlying129
  a213 := Ybaf.isAgg129
  z213 := Ybaf.sizeOf129
  t232 := Ybaf.underlying141
  a232 := Ybaf.isAgg141
  z232 := Ybaf.sizeOf141
  v232 := Ybaf.zeroValue141
  t233 := Ybaf.underlying142
  a233 := Ybaf.isAgg142
  z233 := Ybaf.sizeOf142
  v233 := Ybaf.zeroValue142
  g17 := by kernel_rfl
  g18 := by kernel_rfl
  g19 := by kernel_rfl
  i0 := by kernel_rfl
  i2 := by kernel_rfl
  i3 := by kernel_rfl
  i4 := by kernel_rfl
  i5 := by kernel_rfl
  i9 := by kernel_rfl
  i20 := by kernel_rfl
  i37 := by kernel_rfl
  i46 := by kernel_rfl
  i51 := by kernel_rfl
  i53 := by kernel_rfl
  i171 := by kernel_rfl
  i173 := by kernel_rfl
  i212 := by kernel_rfl
  i232 := by kernel_rfl
  i233 := by kernel_rfl
  m17 := by kernel_rfl
  m18 := by kernel_rfl
  m19 := by kernel_rfl }
open Go.RowKit Go.Sort Go.Lib in
/-- strconv.Itoa: "Itoa is equivalent to FormatInt(int64(i), 10).": i's DECIMAL NUMERAL ('Lib.itoa': a '-' where i is negative, then the digits), FOR EVERY int. The world behind the call: the world before it, new blocks behind the heap (the library's 'var a [24]byte'), draws. (LAID: no walk: one application.) -/
theorem Ybaf.strconv_Itoa (n : Int) (h0 : -9223372036854775808 ≤ n) (h1 : n ≤ 9223372036854775807) (w : World) (htab : Lib.TabIs Ybaf.prog w "internal/strconv.uint64pow10" .u64 Lib.pow10Tab) :
    Calls Ybaf.prog 9 #[.int .i64 n] w fun e w' => e = .returned (.string ⟨(Lib.itoa n).toArray⟩) ∧ ∃ k os, w' = grow (w.drewN k) os := Any.strconv_Itoa Ybaf.laysM171 n h0 h1 w htab
def Ybaf.lays171_ren : Go.Shelf.Ren := ⟨fun | 171 => 9 | 243 => 20 | 246 => 36 | 283 => 46 | 284 => 47 | 285 => 48 | 286 => 49 | 129 => 63 | 317 => 65 | 318 => 66 | 319 => 67 | 320 => 68 | 337 => 75 | 338 => 76 | n => n, fun | 3 => 3 | 9 => 9 | 2 => 2 | 4 => 4 | 171 => 106 | 0 => 0 | 53 => 107 | 37 => 24 | 5 => 5 | 173 => 110 | 212 => 128 | 51 => 125 | 20 => 20 | 213 => 129 | 46 => 105 | 232 => 141 | 233 => 142 | n => n, fun | 17 => 2 | 18 => 3 | 19 => 4 | n => n⟩
theorem Ybaf.lays171 : Go.Proofs.Lays.n171 Ybaf.prog Ybaf.lays171_ren := {
  mixed := by kernel_rfl
  f129 := Ybaf.func63.trans (congrArg some (by kernel_rfl))
  f171 := Ybaf.func9.trans (congrArg some (by kernel_rfl))
  f243 := Ybaf.func20.trans (congrArg some (by kernel_rfl))
  f246 := Ybaf.func36.trans (congrArg some (by kernel_rfl))
  f283 := Ybaf.func46.trans (congrArg some (by kernel_rfl))
  f284 := Ybaf.func47.trans (congrArg some (by kernel_rfl))
  f285 := Ybaf.func48.trans (congrArg some (by kernel_rfl))
  f286 := Ybaf.func49.trans (congrArg some (by kernel_rfl))
  f317 := Ybaf.func65.trans (congrArg some (by kernel_rfl))
  f318 := Ybaf.func66.trans (congrArg some (by kernel_rfl))
  f319 := Ybaf.func67.trans (congrArg some (by kernel_rfl))
  f320 := Ybaf.func68.trans (congrArg some (by kernel_rfl))
  f337 := Ybaf.func75.trans (congrArg some (by kernel_rfl))
  f338 := Ybaf.func76.trans (congrArg some (by kernel_rfl))
  t0 := Ybaf.underlying0
  a0 := Ybaf.isAgg0
  z0 := Ybaf.sizeOf0
  v0 := Ybaf.zeroValue0
  t2 := Ybaf.underlying2
  a2 := Ybaf.isAgg2
  z2 := Ybaf.sizeOf2
  v2 := Ybaf.zeroValue2
  t3 := Ybaf.underlying3
  a3 := Ybaf.isAgg3
  z3 := Ybaf.sizeOf3
  v3 := Ybaf.zeroValue3
  t4 := Ybaf.underlying4
  a4 := Ybaf.isAgg4
  z4 := Ybaf.sizeOf4
  v4 := Ybaf.zeroValue4
  t5 := Ybaf.underlying5
  a5 := Ybaf.isAgg5
  z5 := Ybaf.sizeOf5
  v5 := Ybaf.zeroValue5
  t9 := Ybaf.underlying9
  a9 := Ybaf.isAgg9
  z9 := Ybaf.sizeOf9
  v9 := Ybaf.zeroValue9
  t20 := Ybaf.underlying20
  a20 := Ybaf.isAgg20
  z20 := Ybaf.sizeOf20
  v20 := Ybaf.zeroValue20
  t37 := Ybaf.underlying24
  a37 := Ybaf.isAgg24
  z37 := Ybaf.sizeOf24
  v37 := Ybaf.zeroValue24
  t46 := Ybaf.underlying105
  a46 := Ybaf.isAgg105
  z46 := Ybaf.sizeOf105
  v46 := Ybaf.zeroValue105
  t51 := Ybaf.underlying125
  a51 := Ybaf.isAgg125
  z51 := Ybaf.sizeOf125
  v51 := Ybaf.zeroValue125
  t53 := Ybaf.underlying107
  a53 := Ybaf.isAgg107
  z53 := Ybaf.sizeOf107
  v53 := Ybaf.zeroValue107
  t171 := Ybaf.underlying106
  a171 := Ybaf.isAgg106
  z171 := Ybaf.sizeOf106
  v171 := Ybaf.zeroValue106
  t173 := Ybaf.underlying110
  a173 := Ybaf.isAgg110
  z173 := Ybaf.sizeOf110
  v173 := Ybaf.zeroValue110
  t212 := Ybaf.underlying128
  a212 := Ybaf.isAgg128
  z212 := Ybaf.sizeOf128
  v212 := Ybaf.zeroValue128
  t213 := Ybaf.underlying129
  a213 := Ybaf.isAgg129
  z213 := Ybaf.sizeOf129
  t232 := Ybaf.underlying141
  a232 := Ybaf.isAgg141
  z232 := Ybaf.sizeOf141
  v232 := Ybaf.zeroValue141
  t233 := Ybaf.underlying142
  a233 := Ybaf.isAgg142
  z233 := Ybaf.sizeOf142
  v233 := Ybaf.zeroValue142
  g17 := by kernel_rfl
  g18 := by kernel_rfl
  g19 := by kernel_rfl }
open Go.RowKit Go.Sort Go.Lib in
/-- THE ROAD WITHOUT THE TABLE: 0 <= i < 100: NO PREMISE ON THE WORLD, AND THE WORLD IS AS IT WAS: a row that keeps its argument in that range need list no table ('laid = []'). (LAID: no walk: one application.) -/
theorem Ybaf.strconv_Itoa_small (i : Nat) (hi : i < 100) (w : World) :
    Calls Ybaf.prog 9 #[.int .i64 i] w fun e w' => e = .returned (.string ⟨(Lib.decDigits i).toArray⟩) ∧ w' = w := Any.strconv_Itoa_small Ybaf.lays171 i hi w
def Ybaf.lays207_ren : Go.Shelf.Ren := ⟨fun | 207 => 69 | n => n, fun | 9 => 9 | 4 => 4 | 3 => 3 | n => n, fun | n => n⟩
theorem Ybaf.lays207 : Go.Proofs.Lays.n207 Ybaf.prog Ybaf.lays207_ren := {
  mixed := by kernel_rfl
  f207 := Ybaf.func69.trans (congrArg some (by kernel_rfl))
  t3 := Ybaf.underlying3
  a3 := Ybaf.isAgg3
  z3 := Ybaf.sizeOf3
  v3 := Ybaf.zeroValue3
  t4 := Ybaf.underlying4
  a4 := Ybaf.isAgg4
  z4 := Ybaf.sizeOf4
  v4 := Ybaf.zeroValue4
  t9 := Ybaf.underlying9
  a9 := Ybaf.isAgg9
  z9 := Ybaf.sizeOf9
  v9 := Ybaf.zeroValue9 }
open Go.RowKit Go.Lib in
/-- internal/stringslite.HasSuffix (what strings.HasSuffix calls). (LAID: no walk: one application.) -/
theorem Ybaf.stringslite_HasSuffix (s p : ByteArray) (w : World) (hs : s.size ≤ 9223372036854775807) :
    Calls Ybaf.prog 69 #[.string s, .string p] w fun e w' => e = .returned (.bool (Lib.hasSuffix s.data.toList p.data.toList)) ∧ w' = w := Any.stringslite_HasSuffix Ybaf.lays207 s p w hs
end Go.Proofs
