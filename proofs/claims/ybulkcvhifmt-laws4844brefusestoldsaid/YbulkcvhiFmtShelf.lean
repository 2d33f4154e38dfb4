/-
  DERIVED: THE SHELF's CONTRACTS AT THIS DUMP, IN PLAIN WORDS (tools/lay-plain.mjs out of 'YbulkcvhiFmtShelf.lean', which tools/lay-shelf.mjs wrote): THE SAME DECLARATIONS UNDER THE SAME NAMES: 'import', 'namespace', 'open', 'def', 'theorem' AND NOTHING ELSE: no command of the shelf's: FOR A HAND-IN. Each laying: the table of numbers ('.._ren') and one theorem, a field a fact of the dump's own or the kernel's comparison; each contract: ONE APPLICATION.
-/
import Derived.Shelf.Strings.Builder1
import Derived.Shelf.Strings.Builder2
import Derived.Shelf.Strings.OnBuilder
import Derived.Shelf.Small.Wraps
import Derived.Shelf.Strings.Prefix
import Derived.Test.YbulkcvhiFmtProg
namespace Go.Proofs
open Go.Shelf
def Ybaf.lays169_ren : Go.Shelf.Ren := ⟨fun | 169 => 27 | n => n, fun | 70 => 77 | 9 => 9 | 0 => 0 | 72 => 79 | 37 => 22 | 127 => 86 | 3 => 3 | 5 => 5 | n => n, fun | n => n⟩
theorem Ybaf.lays169 : Go.Proofs.Lays.n169 Ybaf.prog Ybaf.lays169_ren := {
  mixed := by kernel_rfl
  f169 := Ybaf.func27.trans (congrArg some (by kernel_rfl))
  t0 := Ybaf.underlying0
  a0 := Ybaf.isAgg0
  z0 := Ybaf.sizeOf0
  v0 := Ybaf.zeroValue0
  t3 := Ybaf.underlying3
  a3 := Ybaf.isAgg3
  z3 := Ybaf.sizeOf3
  v3 := Ybaf.zeroValue3
  t9 := Ybaf.underlying9
  a9 := Ybaf.isAgg9
  z9 := Ybaf.sizeOf9
  v9 := Ybaf.zeroValue9
  t37 := Ybaf.underlying22
  a37 := Ybaf.isAgg22
  z37 := Ybaf.sizeOf22
  v37 := Ybaf.zeroValue22
  t70 := Ybaf.underlying77
  a70 := Ybaf.isAgg77
  z70 := Ybaf.sizeOf77
  v70 := Ybaf.zeroValue77
  t72 := Ybaf.underlying79
  a72 := Ybaf.isAgg79
  z72 := Ybaf.sizeOf79
  v72 := Ybaf.zeroValue79
  t127 := Ybaf.underlying86
  a127 := Ybaf.isAgg86
  z127 := Ybaf.sizeOf86
  v127 := Ybaf.zeroValue86 }
theorem Ybaf.Builder_Extra_169 : Builder.Extra Ybaf.prog Ybaf.lays169_ren := {
  sizeBuilder := by kernel_rfl
  liesBuilder := by kernel_rfl
  t5 := Ybaf.underlying5
  a5 := Ybaf.isAgg5
  z5 := Ybaf.sizeOf5
  v5 := Ybaf.zeroValue5
  infoByte := by kernel_rfl
  cellsByte := by kernel_rfl
  sizeByte := by kernel_rfl
  neB5 := by decide }
open Go.RowKit in
/-- (*strings.Builder).String: "String returns the accumulated string.": OF A BUILDER THAT HOLDS AT LEAST ONE BYTE. ✋ THE MODEL FREEZES THOSE BYTES IN THE BUFFER: a later write INTO them ends the model's run without an answer; a later append BEHIND them goes on. The statement's order of evaluation is drawn: one draw. (LAID: no walk: one application.) -/
theorem Ybaf.Builder_String (B b : Nat) (l : List UInt8) (w : World) (h : Lib.IsBuilder 79 5 B b (Lib.byteCells l) w) (h0 : l ≠ []) :
    Calls Ybaf.prog 27 #[.pointer (some ⟨b, 0, none⟩)] w fun e w' => e = .returned (.string ⟨l.toArray⟩) ∧ Below B w w' := Any.Builder_String Ybaf.lays169 Ybaf.Builder_Extra_169 B b l w h h0
open Go.RowKit in
/-- (*strings.Builder).String OF A BUILDER THAT HOLDS NO BYTE: the empty string. (Its buffer is nil, or a row of which it has taken nothing yet; where that row has NO capacity the model lays one new block.) One draw. (LAID: no walk: one application.) -/
theorem Ybaf.Builder_String_empty (B b : Nat) (w : World) (h : Lib.IsBuilder 79 5 B b [] w) (hBw : B ≤ w.heap.size) :
    Calls Ybaf.prog 27 #[.pointer (some ⟨b, 0, none⟩)] w fun e w' => e = .returned (.string ⟨#[]⟩) ∧ Below B w w' := Any.Builder_String_empty Ybaf.lays169 Ybaf.Builder_Extra_169 B b w h hBw
open Go.RowKit in
/-- (*strings.Builder).String: "String returns the accumulated string.": WHATEVER THE BUILDER HOLDS. (LAID: no walk: one application.) -/
theorem Ybaf.Builder_String_any (B b : Nat) (l : List UInt8) (w : World) (h : Lib.IsBuilder 79 5 B b (Lib.byteCells l) w) (hBw : B ≤ w.heap.size) :
    Calls Ybaf.prog 27 #[.pointer (some ⟨b, 0, none⟩)] w fun e w' => e = .returned (.string ⟨l.toArray⟩) ∧ Below B w w' := Any.Builder_String_any Ybaf.lays169 Ybaf.Builder_Extra_169 B b l w h hBw
def Ybaf.lays241_ren : Go.Shelf.Ren := ⟨fun | 241 => 34 | 277 => 37 | n => n, fun | 70 => 77 | 3 => 3 | 0 => 0 | 72 => 79 | 37 => 22 | 5 => 5 | n => n, fun | n => n⟩
theorem Ybaf.lays241 : Go.Proofs.Lays.n241 Ybaf.prog Ybaf.lays241_ren := {
  mixed := by kernel_rfl
  f241 := Ybaf.func34.trans (congrArg some (by kernel_rfl))
  f277 := Ybaf.func37.trans (congrArg some (by kernel_rfl))
  t0 := Ybaf.underlying0
  a0 := Ybaf.isAgg0
  z0 := Ybaf.sizeOf0
  v0 := Ybaf.zeroValue0
  t3 := Ybaf.underlying3
  a3 := Ybaf.isAgg3
  z3 := Ybaf.sizeOf3
  v3 := Ybaf.zeroValue3
  t37 := Ybaf.underlying22
  a37 := Ybaf.isAgg22
  z37 := Ybaf.sizeOf22
  v37 := Ybaf.zeroValue22
  t70 := Ybaf.underlying77
  a70 := Ybaf.isAgg77
  z70 := Ybaf.sizeOf77
  v70 := Ybaf.zeroValue77
  t72 := Ybaf.underlying79
  a72 := Ybaf.isAgg79
  z72 := Ybaf.sizeOf79
  v72 := Ybaf.zeroValue79 }
theorem Ybaf.Builder_Extra_241 : Builder.Extra Ybaf.prog Ybaf.lays241_ren := {
  sizeBuilder := by kernel_rfl
  liesBuilder := by kernel_rfl
  t5 := Ybaf.underlying5
  a5 := Ybaf.isAgg5
  z5 := Ybaf.sizeOf5
  v5 := Ybaf.zeroValue5
  infoByte := by kernel_rfl
  cellsByte := by kernel_rfl
  sizeByte := by kernel_rfl
  neB5 := by decide }
open Go.RowKit in
/-- (*strings.Builder).grow (no doc but "grow copies the buffer to a new, larger buffer so that there are at least n bytes of capacity beyond len(b.buf)."): AT A BUILDER WITHOUT A BUFFER: a new row of whatever bytes for its buffer, none of them its own yet. Three draws. (LAID: no walk: one application.) -/
theorem Ybaf.Builder_grow_fresh (B b n : Nat) (w : World) (hB : B ≤ b) (hbk : w.heap[b]? = some (.cells #[.pointer (some ⟨b, 0, none⟩), .slice none 0 0] 79 (0, 0))) (hBw : B ≤ w.heap.size) (hn : n ≤ 281474976710656) :
    Calls Ybaf.prog 34 #[.pointer (some ⟨b, 0, none⟩), .int .i64 n] w fun e w' => e = .returned (.tuple #[]) ∧ (Lib.BuilderAt 79 5 B b (.pointer (some ⟨b, 0, none⟩)) [] w' ∧ Below B w w') := Any.Builder_grow_fresh Ybaf.lays241 Ybaf.Builder_Extra_241 B b n w hB hbk hBw hn
def Ybaf.lays165_ren : Go.Shelf.Ren := ⟨fun | 165 => 25 | 240 => 33 | 241 => 34 | 276 => 36 | 277 => 37 | n => n, fun | 70 => 77 | 3 => 3 | 0 => 0 | 4 => 4 | 9 => 9 | 20 => 20 | 72 => 79 | 37 => 22 | 164 => 88 | 5 => 5 | n => n, fun | n => n⟩
theorem Ybaf.lays165 : Go.Proofs.Lays.n165 Ybaf.prog Ybaf.lays165_ren := {
  mixed := by kernel_rfl
  f165 := Ybaf.func25.trans (congrArg some (by kernel_rfl))
  f240 := Ybaf.func33.trans (congrArg some (by kernel_rfl))
  f241 := Ybaf.func34.trans (congrArg some (by kernel_rfl))
  f276 := Ybaf.func36.trans (congrArg some (by kernel_rfl))
  f277 := Ybaf.func37.trans (congrArg some (by kernel_rfl))
  t0 := Ybaf.underlying0
  a0 := Ybaf.isAgg0
  z0 := Ybaf.sizeOf0
  v0 := Ybaf.zeroValue0
  t3 := Ybaf.underlying3
  a3 := Ybaf.isAgg3
  z3 := Ybaf.sizeOf3
  v3 := Ybaf.zeroValue3
  t4 := Ybaf.underlying4
  a4 := Ybaf.isAgg4
  z4 := Ybaf.sizeOf4
  v4 := Ybaf.zeroValue4
  t9 := Ybaf.underlying9
  a9 := Ybaf.isAgg9
  z9 := Ybaf.sizeOf9
  v9 := Ybaf.zeroValue9
  t20 := Ybaf.underlying20
  a20 := Ybaf.isAgg20
  z20 := Ybaf.sizeOf20
  v20 := Ybaf.zeroValue20
  t37 := Ybaf.underlying22
  a37 := Ybaf.isAgg22
  z37 := Ybaf.sizeOf22
  v37 := Ybaf.zeroValue22
  t70 := Ybaf.underlying77
  a70 := Ybaf.isAgg77
  z70 := Ybaf.sizeOf77
  v70 := Ybaf.zeroValue77
  t72 := Ybaf.underlying79
  a72 := Ybaf.isAgg79
  z72 := Ybaf.sizeOf79
  v72 := Ybaf.zeroValue79
  t164 := Ybaf.underlying88
  a164 := Ybaf.isAgg88
  z164 := Ybaf.sizeOf88
  v164 := Ybaf.zeroValue88 }
theorem Ybaf.Builder_Extra_165 : Builder.Extra Ybaf.prog Ybaf.lays165_ren := {
  sizeBuilder := by kernel_rfl
  liesBuilder := by kernel_rfl
  t5 := Ybaf.underlying5
  a5 := Ybaf.isAgg5
  z5 := Ybaf.sizeOf5
  v5 := Ybaf.zeroValue5
  infoByte := by kernel_rfl
  cellsByte := by kernel_rfl
  sizeByte := by kernel_rfl
  neB5 := by decide }
open Go.RowKit in
/-- (*strings.Builder).Grow AT A BUILDER THAT HAS NOT BEEN WRITTEN ('var b strings.Builder; b.Grow(n)'): "Grow grows b's capacity, if necessary, to guarantee space for another n bytes.": it holds no byte behind it as before it. (LAID: no walk: one application.) -/
theorem Ybaf.Builder_Grow_fresh (B b n : Nat) (w : World) (hB : B ≤ b) (hbk : w.heap[b]? = some (.cells #[.pointer none, .slice none 0 0] 79 (0, 0))) (hBw : B ≤ w.heap.size) (hn : n ≤ 281474976710656) :
    Calls Ybaf.prog 25 #[.pointer (some ⟨b, 0, none⟩), .int .i64 n] w fun e w' => e = .returned (.tuple #[]) ∧ (Lib.BuilderAt 79 5 B b (.pointer (some ⟨b, 0, none⟩)) [] w' ∧ Below B w w') := Any.Builder_Grow_fresh Ybaf.lays165 Ybaf.Builder_Extra_165 B b n w hB hbk hBw hn
def Ybaf.lays156_ren : Go.Shelf.Ren := ⟨fun | 156 => 19 | 165 => 25 | 166 => 26 | 169 => 27 | 240 => 33 | 241 => 34 | 276 => 36 | 277 => 37 | n => n, fun | 31 => 25 | 9 => 9 | 3 => 3 | 4 => 4 | 0 => 0 | 20 => 20 | 72 => 79 | 76 => 81 | 70 => 77 | 37 => 22 | 75 => 34 | 127 => 86 | 164 => 88 | 5 => 5 | 80 => 71 | n => n, fun | n => n⟩
theorem Ybaf.lays156 : Go.Proofs.Lays.n156 Ybaf.prog Ybaf.lays156_ren := {
  mixed := by kernel_rfl
  f156 := Ybaf.func19.trans (congrArg some (by kernel_rfl))
  f165 := Ybaf.func25.trans (congrArg some (by kernel_rfl))
  f166 := Ybaf.func26.trans (congrArg some (by kernel_rfl))
  f169 := Ybaf.func27.trans (congrArg some (by kernel_rfl))
  f240 := Ybaf.func33.trans (congrArg some (by kernel_rfl))
  f241 := Ybaf.func34.trans (congrArg some (by kernel_rfl))
  f276 := Ybaf.func36.trans (congrArg some (by kernel_rfl))
  f277 := Ybaf.func37.trans (congrArg some (by kernel_rfl))
  t0 := Ybaf.underlying0
  a0 := Ybaf.isAgg0
  z0 := Ybaf.sizeOf0
  v0 := Ybaf.zeroValue0
  t3 := Ybaf.underlying3
  a3 := Ybaf.isAgg3
  z3 := Ybaf.sizeOf3
  v3 := Ybaf.zeroValue3
  t4 := Ybaf.underlying4
  a4 := Ybaf.isAgg4
  z4 := Ybaf.sizeOf4
  v4 := Ybaf.zeroValue4
  t9 := Ybaf.underlying9
  a9 := Ybaf.isAgg9
  z9 := Ybaf.sizeOf9
  v9 := Ybaf.zeroValue9
  t20 := Ybaf.underlying20
  a20 := Ybaf.isAgg20
  z20 := Ybaf.sizeOf20
  v20 := Ybaf.zeroValue20
  t31 := Ybaf.underlying25
  a31 := Ybaf.isAgg25
  z31 := Ybaf.sizeOf25
  v31 := Ybaf.zeroValue25
  t37 := Ybaf.underlying22
  a37 := Ybaf.isAgg22
  z37 := Ybaf.sizeOf22
  v37 := Ybaf.zeroValue22
  t70 := Ybaf.underlying77
  a70 := Ybaf.isAgg77
  z70 := Ybaf.sizeOf77
  v70 := Ybaf.zeroValue77
  t72 := Ybaf.underlying79
  a72 := Ybaf.isAgg79
  z72 := Ybaf.sizeOf79
  v72 := Ybaf.zeroValue79
  t75 := Ybaf.underlying34
  a75 := Ybaf.isAgg34
  z75 := Ybaf.sizeOf34
  v75 := Ybaf.zeroValue34
  t76 := Ybaf.underlying81
  a76 := Ybaf.isAgg81
  z76 := Ybaf.sizeOf81
  v76 := Ybaf.zeroValue81
  t127 := Ybaf.underlying86
  a127 := Ybaf.isAgg86
  z127 := Ybaf.sizeOf86
  v127 := Ybaf.zeroValue86
  t164 := Ybaf.underlying88
  a164 := Ybaf.isAgg88
  z164 := Ybaf.sizeOf88
  v164 := Ybaf.zeroValue88 }
theorem Ybaf.Builder_Extra_156 : Builder.Extra Ybaf.prog Ybaf.lays156_ren := {
  sizeBuilder := by kernel_rfl
  liesBuilder := by kernel_rfl
  t5 := Ybaf.underlying5
  a5 := Ybaf.isAgg5
  z5 := Ybaf.sizeOf5
  v5 := Ybaf.zeroValue5
  infoByte := by kernel_rfl
  cellsByte := by kernel_rfl
  sizeByte := by kernel_rfl
  neB5 := by decide }
open Go.RowKit in
/-- No element: the empty string; the world is as it was. (Whatever the slice's address and capacity: a nil slice too.) (LAID: no walk: one application.) -/
theorem Ybaf.strings_Join_none (a : Option Addr) (c : Nat) (sep : ByteArray) (w : World) :
    Calls Ybaf.prog 19 #[.slice a 0 c, .string sep] w fun e w' => e = .returned (.string ⟨#[]⟩) ∧ w' = w := Any.strings_Join_none Ybaf.lays156 Ybaf.Builder_Extra_156 a c sep w
open Go.RowKit in
/-- strings.Join: "Join concatenates the elements of its first argument to create a single string. The separator string sep is placed between elements in the resulting string.": HOWEVER MANY ELEMENTS. Below the heap's end the world is as it was. (LAID: no walk: one application.) -/
theorem Ybaf.strings_Join (bk o c : Nat) (xs : List ByteArray) (sep : ByteArray) (w : World) (hcells : ∀ (j : Nat) x, xs[j]? = some x → w.cell? ⟨bk, o + j, none⟩ = some (.string x)) (hbk : bk < w.heap.size) (hN : xs.length ≤ 140737488355328) (hcap : xs.length ≤ c) (hlen : (Lib.join (xs.map (·.data.toList)) sep.data.toList).length ≤ 140737488355328) :
    Calls Ybaf.prog 19 #[.slice (some ⟨bk, o, none⟩) xs.length c, .string sep] w fun e w' => e = .returned (.string ⟨(Lib.join (xs.map (·.data.toList)) sep.data.toList).toArray⟩) ∧ Below w.heap.size w w' := Any.strings_Join Ybaf.lays156 Ybaf.Builder_Extra_156 bk o c xs sep w hcells hbk hN hcap hlen
def Ybaf.lays210_ren : Go.Shelf.Ren := ⟨fun | 210 => 28 | 206 => 35 | n => n, fun | 9 => 9 | 4 => 4 | 3 => 3 | n => n, fun | n => n⟩
theorem Ybaf.lays210 : Go.Proofs.Lays.n210 Ybaf.prog Ybaf.lays210_ren := {
  mixed := by kernel_rfl
  f206 := Ybaf.func35.trans (congrArg some (by kernel_rfl))
  f210 := Ybaf.func28.trans (congrArg some (by kernel_rfl))
  t3 := Ybaf.underlying3
  a3 := Ybaf.isAgg3
  z3 := Ybaf.sizeOf3
  v3 := Ybaf.zeroValue3
  t4 := Ybaf.underlying4
  a4 := Ybaf.isAgg4
  z4 := Ybaf.sizeOf4
  v4 := Ybaf.zeroValue4
  t9 := Ybaf.underlying9
  a9 := Ybaf.isAgg9
  z9 := Ybaf.sizeOf9
  v9 := Ybaf.zeroValue9 }
open Go.RowKit in
/-- internal/stringslite.CutPrefix (what strings.CutPrefix calls). (LAID: no walk: one application.) -/
theorem Ybaf.stringslite_CutPrefix (s p : ByteArray) (w : World) :
    Calls Ybaf.prog 28 #[.string s, .string p] w fun e w' => e = .returned (.tuple #[.string ⟨(Lib.trimPrefix s.data.toList p.data.toList).toArray⟩, .bool (Lib.hasPrefix s.data.toList p.data.toList)]) ∧ w' = w := Any.stringslite_CutPrefix Ybaf.lays210 s p w
def Ybaf.lays103_ren : Go.Shelf.Ren := ⟨fun | 103 => 21 | 210 => 28 | 206 => 35 | n => n, fun | 9 => 9 | 4 => 4 | 24 => 63 | 3 => 3 | n => n, fun | n => n⟩
theorem Ybaf.lays103 : Go.Proofs.Lays.n103 Ybaf.prog Ybaf.lays103_ren := {
  mixed := by kernel_rfl
  f103 := Ybaf.func21.trans (congrArg some (by kernel_rfl))
  f206 := Ybaf.func35.trans (congrArg some (by kernel_rfl))
  f210 := Ybaf.func28.trans (congrArg some (by kernel_rfl))
  t3 := Ybaf.underlying3
  a3 := Ybaf.isAgg3
  z3 := Ybaf.sizeOf3
  v3 := Ybaf.zeroValue3
  t4 := Ybaf.underlying4
  a4 := Ybaf.isAgg4
  z4 := Ybaf.sizeOf4
  v4 := Ybaf.zeroValue4
  t9 := Ybaf.underlying9
  a9 := Ybaf.isAgg9
  z9 := Ybaf.sizeOf9
  v9 := Ybaf.zeroValue9
  t24 := Ybaf.underlying63
  a24 := Ybaf.isAgg63
  z24 := Ybaf.sizeOf63
  v24 := Ybaf.zeroValue63 }
open Go.RowKit in
/-- strings.CutPrefix: "CutPrefix returns s without the provided leading prefix string and reports whether it found the prefix. If s doesn't start with prefix, CutPrefix returns s, false. If prefix is the empty string, CutPrefix returns s, true.": IT RETURNS '(Lib.trimPrefix s p, Lib.hasPrefix s p)'; the world is as it was. (LAID: no walk: one application.) -/
theorem Ybaf.strings_CutPrefix (s p : ByteArray) (w : World) :
    Calls Ybaf.prog 21 #[.string s, .string p] w fun e w' => e = .returned (.tuple #[.string ⟨(Lib.trimPrefix s.data.toList p.data.toList).toArray⟩, .bool (Lib.hasPrefix s.data.toList p.data.toList)]) ∧ w' = w := Any.strings_CutPrefix Ybaf.lays103 s p w
def Ybaf.lays206_ren : Go.Shelf.Ren := ⟨fun | 206 => 35 | n => n, fun | 9 => 9 | 4 => 4 | 3 => 3 | n => n, fun | n => n⟩
theorem Ybaf.lays206 : Go.Proofs.Lays.n206 Ybaf.prog Ybaf.lays206_ren := {
  mixed := by kernel_rfl
  f206 := Ybaf.func35.trans (congrArg some (by kernel_rfl))
  t3 := Ybaf.underlying3
  a3 := Ybaf.isAgg3
  z3 := Ybaf.sizeOf3
  v3 := Ybaf.zeroValue3
  t4 := Ybaf.underlying4
  a4 := Ybaf.isAgg4
  z4 := Ybaf.sizeOf4
  v4 := Ybaf.zeroValue4
  t9 := Ybaf.underlying9
  a9 := Ybaf.isAgg9
  z9 := Ybaf.sizeOf9
  v9 := Ybaf.zeroValue9 }
open Go.RowKit Go.Lib in
/-- internal/stringslite.HasPrefix (what strings.HasPrefix calls). (LAID: no walk: one application.) -/
theorem Ybaf.stringslite_HasPrefix (s p : ByteArray) (w : World) :
    Calls Ybaf.prog 35 #[.string s, .string p] w fun e w' => e = .returned (.bool (Lib.hasPrefix s.data.toList p.data.toList)) ∧ w' = w := Any.stringslite_HasPrefix Ybaf.lays206 s p w
end Go.Proofs
