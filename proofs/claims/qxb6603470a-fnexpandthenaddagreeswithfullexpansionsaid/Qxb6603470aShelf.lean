/-
  DERIVED: THE SHELF's CONTRACTS AT THIS DUMP, IN PLAIN WORDS (tools/lay-plain.mjs out of 'TryShelf.lean', which tools/lay-shelf.mjs wrote): THE SAME DECLARATIONS UNDER THE SAME NAMES: 'import', 'namespace', 'open', 'def', 'theorem' AND NOTHING ELSE: no command of the shelf's: FOR A HAND-IN. Each laying: the table of numbers ('.._ren') and one theorem, a field a fact of the dump's own or the kernel's comparison; each contract: ONE APPLICATION.
-/
import Derived.Shelf.Small.Strs
import Derived.Shelf.Strings.Search1
import Derived.Shelf.Strings.Search2
import Derived.Shelf.Strings.Search3
import Derived.Shelf.Strings.Cut
import Derived.Shelf.LaysM
import Derived.Shelf.Strings.Shaped
import Derived.Shelf.Strings.Prefix
import Derived.Test.Qxb6603470aProg
namespace Go.Proofs
open Go.Shelf
def Try.lays137_ren : Go.Shelf.Ren := ⟨fun | 137 => 53 | 217 => 60 | 266 => 65 | n => n, fun | 9 => 9 | 5 => 5 | 3 => 3 | n => n, fun | n => n⟩
theorem Try.lays137 : Go.Proofs.Lays.n137 Try.prog Try.lays137_ren := {
  mixed := by kernel_rfl
  f137 := Try.func53.trans (congrArg some (by kernel_rfl))
  f217 := Try.func60.trans (congrArg some (by kernel_rfl))
  f266 := Try.func65.trans (congrArg some (by kernel_rfl))
  t3 := Try.underlying3
  a3 := Try.isAgg3
  z3 := Try.sizeOf3
  v3 := Try.zeroValue3
  t5 := Try.underlying5
  a5 := Try.isAgg5
  z5 := Try.sizeOf5
  v5 := Try.zeroValue5
  t9 := Try.underlying9
  a9 := Try.isAgg9
  z9 := Try.sizeOf9
  v9 := Try.zeroValue9 }
open Go.RowKit in
/-- strings.IndexByte: "IndexByte returns the index of the first instance of c in s, or -1 if c is not present in s.": IT RETURNS 'Lib.indexByte s c'; the world is as it was. (LAID: no walk: one application.) -/
theorem Try.strings_IndexByte (s : ByteArray) (c : Int) (w : World) :
    Calls Try.prog 53 #[.string s, .int .u8 c] w fun e w' => e = .returned (.int .i64 (Lib.indexByte s.data.toList c.toNat.toUInt8)) ∧ w' = w := Any.strings_IndexByte Try.lays137 s c w
def Try.lays217_ren : Go.Shelf.Ren := ⟨fun | 217 => 60 | 266 => 65 | n => n, fun | 9 => 9 | 5 => 5 | 3 => 3 | n => n, fun | n => n⟩
theorem Try.lays217 : Go.Proofs.Lays.n217 Try.prog Try.lays217_ren := {
  mixed := by kernel_rfl
  f217 := Try.func60.trans (congrArg some (by kernel_rfl))
  f266 := Try.func65.trans (congrArg some (by kernel_rfl))
  t3 := Try.underlying3
  a3 := Try.isAgg3
  z3 := Try.sizeOf3
  v3 := Try.zeroValue3
  t5 := Try.underlying5
  a5 := Try.isAgg5
  z5 := Try.sizeOf5
  v5 := Try.zeroValue5
  t9 := Try.underlying9
  a9 := Try.isAgg9
  z9 := Try.sizeOf9
  v9 := Try.zeroValue9 }
open Go.RowKit Go.Lib in
/-- internal/stringslite.IndexByte (what strings.IndexByte calls): IT RETURNS 'Lib.indexByte s c'; the world is as it was. (LAID: no walk: one application.) -/
theorem Try.stringslite_IndexByte (s : ByteArray) (c : Int) (w : World) :
    Calls Try.prog 60 #[.string s, .int .u8 c] w fun e w' => e = .returned (.int .i64 (Lib.indexByte s.data.toList c.toNat.toUInt8)) ∧ w' = w := Any.stringslite_IndexByte Try.lays217 s c w
def Try.lays224_ren : Go.Shelf.Ren := ⟨fun | 224 => 67 | n => n, fun | 3 => 3 | n => n, fun | n => n⟩
theorem Try.lays224 : Go.Proofs.Lays.n224 Try.prog Try.lays224_ren := {
  mixed := by kernel_rfl
  f224 := Try.func67.trans (congrArg some (by kernel_rfl))
  t3 := Try.underlying3
  a3 := Try.isAgg3
  z3 := Try.sizeOf3
  v3 := Try.zeroValue3 }
open Go.RowKit Go.Lib in
/-- internal/bytealg.Cutover: "Cutover reports the number of failures of IndexByte we should tolerate before switching over to Index. n is the number of bytes processed so far.": on amd64: (n + 16) / 8. (LAID: no walk: one application.) -/
theorem Try.bytealg_Cutover (n : Int) (h0 : 0 ≤ n) (h1 : n < 4611686018427387904) (w : World) :
    Calls Try.prog 67 #[.int .i64 n] w fun e w' => e = .returned (.int .i64 ((n + 16) / 8)) ∧ w' = w := Any.bytealg_Cutover Try.lays224 n h0 h1 w
def Try.lays314_ren : Go.Shelf.Ren := ⟨fun | 314 => 69 | n => n, fun | 9 => 9 | 51 => 106 | 3 => 3 | 4 => 4 | 5 => 5 | 46 => 105 | n => n, fun | n => n⟩
theorem Try.lays314 : Go.Proofs.Lays.n314 Try.prog Try.lays314_ren := {
  mixed := by kernel_rfl
  f314 := Try.func69.trans (congrArg some (by kernel_rfl))
  t3 := Try.underlying3
  a3 := Try.isAgg3
  z3 := Try.sizeOf3
  v3 := Try.zeroValue3
  t4 := Try.underlying4
  a4 := Try.isAgg4
  z4 := Try.sizeOf4
  v4 := Try.zeroValue4
  t5 := Try.underlying5
  a5 := Try.isAgg5
  z5 := Try.sizeOf5
  v5 := Try.zeroValue5
  t9 := Try.underlying9
  a9 := Try.isAgg9
  z9 := Try.sizeOf9
  v9 := Try.zeroValue9
  t46 := Try.underlying105
  a46 := Try.isAgg105
  z46 := Try.sizeOf105
  v46 := Try.zeroValue105
  t51 := Try.underlying106
  a51 := Try.isAgg106
  z51 := Try.sizeOf106
  v51 := Try.zeroValue106 }
open Go.RowKit Go.Lib in
/-- hashStr: "returns the hash and the appropriate multiplicative factor for use in Rabin-Karp algorithm": THE HASH OF ALL OF sep, AND 16777619 ^ len(sep), both in uint32. (LAID: no walk: one application.) -/
theorem Try.bytealg_hashStr (sep : ByteArray) (hs : sep.size < 4294967281) (w : World) :
    Calls Try.prog 69 #[.string sep] w fun e w' => e = .returned (.tuple #[.int .u32 (RK.H sep.data.toList % 4294967296), .int .u32 (16777619 ^ sep.size % 4294967296)]) ∧ w' = w := Any.bytealg_hashStr Try.lays314 sep hs w
def Try.lays267_ren : Go.Shelf.Ren := ⟨fun | 267 => 68 | 314 => 69 | n => n, fun | 9 => 9 | 3 => 3 | 146 => 107 | 51 => 106 | 4 => 4 | 5 => 5 | 46 => 105 | n => n, fun | n => n⟩
theorem Try.lays267 : Go.Proofs.Lays.n267 Try.prog Try.lays267_ren := {
  mixed := by kernel_rfl
  f267 := Try.func68.trans (congrArg some (by kernel_rfl))
  f314 := Try.func69.trans (congrArg some (by kernel_rfl))
  t3 := Try.underlying3
  a3 := Try.isAgg3
  z3 := Try.sizeOf3
  v3 := Try.zeroValue3
  t4 := Try.underlying4
  a4 := Try.isAgg4
  z4 := Try.sizeOf4
  v4 := Try.zeroValue4
  t5 := Try.underlying5
  a5 := Try.isAgg5
  z5 := Try.sizeOf5
  v5 := Try.zeroValue5
  t9 := Try.underlying9
  a9 := Try.isAgg9
  z9 := Try.sizeOf9
  v9 := Try.zeroValue9
  t46 := Try.underlying105
  a46 := Try.isAgg105
  z46 := Try.sizeOf105
  v46 := Try.zeroValue105
  t51 := Try.underlying106
  a51 := Try.isAgg106
  z51 := Try.sizeOf106
  v51 := Try.zeroValue106
  t146 := Try.underlying107
  a146 := Try.isAgg107
  z146 := Try.sizeOf107
  v146 := Try.zeroValue107 }
open Go.RowKit Go.Lib in
theorem Try.bytealg_IndexRabinKarp (s sep : ByteArray) (h1 : 1 ≤ sep.size) (h2 : sep.size ≤ s.size) (hs : s.size < 4294967281) (w : World) :
    Calls Try.prog 68 #[.string s, .string sep] w fun e w' => e = .returned (.int .i64 (Lib.index s.data.toList sep.data.toList)) ∧ w' = w := Any.bytealg_IndexRabinKarp Try.lays267 s sep h1 h2 hs w
def Try.lays219_ren : Go.Shelf.Ren := ⟨fun | 219 => 63 | 217 => 60 | 225 => 66 | 224 => 67 | 267 => 68 | 266 => 65 | 314 => 69 | n => n, fun | 9 => 9 | 3 => 3 | 4 => 4 | 5 => 5 | 46 => 105 | 146 => 107 | 51 => 106 | n => n, fun | 1 => 0 | n => n⟩
theorem Try.lays219 : Go.Proofs.Lays.n219 Try.prog Try.lays219_ren := {
  mixed := by kernel_rfl
  f217 := Try.func60.trans (congrArg some (by kernel_rfl))
  f219 := Try.func63.trans (congrArg some (by kernel_rfl))
  f224 := Try.func67.trans (congrArg some (by kernel_rfl))
  f225 := Try.func66.trans (congrArg some (by kernel_rfl))
  f266 := Try.func65.trans (congrArg some (by kernel_rfl))
  f267 := Try.func68.trans (congrArg some (by kernel_rfl))
  f314 := Try.func69.trans (congrArg some (by kernel_rfl))
  t3 := Try.underlying3
  a3 := Try.isAgg3
  z3 := Try.sizeOf3
  v3 := Try.zeroValue3
  t4 := Try.underlying4
  a4 := Try.isAgg4
  z4 := Try.sizeOf4
  v4 := Try.zeroValue4
  t5 := Try.underlying5
  a5 := Try.isAgg5
  z5 := Try.sizeOf5
  v5 := Try.zeroValue5
  t9 := Try.underlying9
  a9 := Try.isAgg9
  z9 := Try.sizeOf9
  v9 := Try.zeroValue9
  t46 := Try.underlying105
  a46 := Try.isAgg105
  z46 := Try.sizeOf105
  v46 := Try.zeroValue105
  t51 := Try.underlying106
  a51 := Try.isAgg106
  z51 := Try.sizeOf106
  v51 := Try.zeroValue106
  t146 := Try.underlying107
  a146 := Try.isAgg107
  z146 := Try.sizeOf107
  v146 := Try.zeroValue107
  g1 := by kernel_rfl }
open Go.RowKit Go.Lib in
/-- internal/stringslite.Index (what strings.Index calls) AT A substr OF ONE BYTE c: IT RETURNS 'Lib.indexByte s c'; the world is as it was. (LAID: no walk: one application.) -/
theorem Try.stringslite_Index_one (s : ByteArray) (c : UInt8) (w : World) :
    Calls Try.prog 63 #[.string s, .string ⟨#[c]⟩] w fun e w' => e = .returned (.int .i64 (Lib.indexByte s.data.toList c)) ∧ w' = w := Any.stringslite_Index_one Try.lays219 s c w
open Go.RowKit Go.Lib in
/-- internal/stringslite.Index (what strings.Index calls) AT A substr OF WHATEVER LENGTH: IT RETURNS 'Lib.index s substr'; the world is as it was. 'm': what internal/bytealg.MaxLen holds: whatever. (LAID: no walk: one application.) -/
theorem Try.stringslite_Index (s sub : ByteArray) (m : Int) (w : World) (hs : s.size < 4294967281) (hm : w.cell? ⟨0, 0, none⟩ = some (.int .i64 m)) :
    Calls Try.prog 63 #[.string s, .string sub] w fun e w' => e = .returned (.int .i64 (Lib.index s.data.toList sub.data.toList)) ∧ w' = w := Any.stringslite_Index Try.lays219 s sub m w hs hm
def Try.lays143_ren : Go.Shelf.Ren := ⟨fun | 143 => 58 | 219 => 63 | 217 => 60 | 225 => 66 | 224 => 67 | 267 => 68 | 266 => 65 | 314 => 69 | n => n, fun | 9 => 9 | 3 => 3 | 4 => 4 | 5 => 5 | 46 => 105 | 146 => 107 | 51 => 106 | n => n, fun | 1 => 0 | n => n⟩
theorem Try.lays143 : Go.Proofs.Lays.n143 Try.prog Try.lays143_ren := {
  mixed := by kernel_rfl
  f143 := Try.func58.trans (congrArg some (by kernel_rfl))
  f217 := Try.func60.trans (congrArg some (by kernel_rfl))
  f219 := Try.func63.trans (congrArg some (by kernel_rfl))
  f224 := Try.func67.trans (congrArg some (by kernel_rfl))
  f225 := Try.func66.trans (congrArg some (by kernel_rfl))
  f266 := Try.func65.trans (congrArg some (by kernel_rfl))
  f267 := Try.func68.trans (congrArg some (by kernel_rfl))
  f314 := Try.func69.trans (congrArg some (by kernel_rfl))
  t3 := Try.underlying3
  a3 := Try.isAgg3
  z3 := Try.sizeOf3
  v3 := Try.zeroValue3
  t4 := Try.underlying4
  a4 := Try.isAgg4
  z4 := Try.sizeOf4
  v4 := Try.zeroValue4
  t5 := Try.underlying5
  a5 := Try.isAgg5
  z5 := Try.sizeOf5
  v5 := Try.zeroValue5
  t9 := Try.underlying9
  a9 := Try.isAgg9
  z9 := Try.sizeOf9
  v9 := Try.zeroValue9
  t46 := Try.underlying105
  a46 := Try.isAgg105
  z46 := Try.sizeOf105
  v46 := Try.zeroValue105
  t51 := Try.underlying106
  a51 := Try.isAgg106
  z51 := Try.sizeOf106
  v51 := Try.zeroValue106
  t146 := Try.underlying107
  a146 := Try.isAgg107
  z146 := Try.sizeOf107
  v146 := Try.zeroValue107
  g1 := by kernel_rfl }
open Go.RowKit Go.Lib in
/-- strings.Index: "Index returns the index of the first instance of substr in s, or -1 if substr is not present in s.": AT A substr OF ONE BYTE c: IT RETURNS 'Lib.indexByte s c'; the world is as it was. (LAID: no walk: one application.) -/
theorem Try.strings_Index_one (s : ByteArray) (c : UInt8) (w : World) :
    Calls Try.prog 58 #[.string s, .string ⟨#[c]⟩] w fun e w' => e = .returned (.int .i64 (Lib.indexByte s.data.toList c)) ∧ w' = w := Any.strings_Index_one Try.lays143 s c w
open Go.RowKit Go.Lib in
/-- strings.Index: "Index returns the index of the first instance of substr in s, or -1 if substr is not present in s.": IT RETURNS 'Lib.index s substr'; the world is as it was. (LAID: no walk: one application.) -/
theorem Try.strings_Index (s sub : ByteArray) (m : Int) (w : World) (hs : s.size < 4294967281) (hm : w.cell? ⟨0, 0, none⟩ = some (.int .i64 m)) :
    Calls Try.prog 58 #[.string s, .string sub] w fun e w' => e = .returned (.int .i64 (Lib.index s.data.toList sub.data.toList)) ∧ w' = w := Any.strings_Index Try.lays143 s sub m w hs hm
def Try.lays144_ren : Go.Shelf.Ren := ⟨fun | 144 => 51 | 143 => 58 | 219 => 63 | 217 => 60 | 225 => 66 | 224 => 67 | 267 => 68 | 266 => 65 | 314 => 69 | n => n, fun | 9 => 9 | 4 => 4 | 3 => 3 | 5 => 5 | 46 => 105 | 146 => 107 | 51 => 106 | n => n, fun | 1 => 0 | n => n⟩
theorem Try.lays144 : Go.Proofs.Lays.n144 Try.prog Try.lays144_ren := {
  mixed := by kernel_rfl
  f143 := Try.func58.trans (congrArg some (by kernel_rfl))
  f144 := Try.func51.trans (congrArg some (by kernel_rfl))
  f217 := Try.func60.trans (congrArg some (by kernel_rfl))
  f219 := Try.func63.trans (congrArg some (by kernel_rfl))
  f224 := Try.func67.trans (congrArg some (by kernel_rfl))
  f225 := Try.func66.trans (congrArg some (by kernel_rfl))
  f266 := Try.func65.trans (congrArg some (by kernel_rfl))
  f267 := Try.func68.trans (congrArg some (by kernel_rfl))
  f314 := Try.func69.trans (congrArg some (by kernel_rfl))
  t3 := Try.underlying3
  a3 := Try.isAgg3
  z3 := Try.sizeOf3
  v3 := Try.zeroValue3
  t4 := Try.underlying4
  a4 := Try.isAgg4
  z4 := Try.sizeOf4
  v4 := Try.zeroValue4
  t5 := Try.underlying5
  a5 := Try.isAgg5
  z5 := Try.sizeOf5
  v5 := Try.zeroValue5
  t9 := Try.underlying9
  a9 := Try.isAgg9
  z9 := Try.sizeOf9
  v9 := Try.zeroValue9
  t46 := Try.underlying105
  a46 := Try.isAgg105
  z46 := Try.sizeOf105
  v46 := Try.zeroValue105
  t51 := Try.underlying106
  a51 := Try.isAgg106
  z51 := Try.sizeOf106
  v51 := Try.zeroValue106
  t146 := Try.underlying107
  a146 := Try.isAgg107
  z146 := Try.sizeOf107
  v146 := Try.zeroValue107
  g1 := by kernel_rfl }
open Go.RowKit Go.Lib in
/-- strings.Contains: "Contains reports whether substr is within s.": AT A substr OF ONE BYTE c: IT RETURNS 'decide (0 ≤ Lib.indexByte s c)'; the world is as it was. (LAID: no walk: one application.) -/
theorem Try.strings_Contains_one (s : ByteArray) (c : UInt8) (w : World) :
    Calls Try.prog 51 #[.string s, .string ⟨#[c]⟩] w fun e w' => e = .returned (.bool (decide (0 ≤ Lib.indexByte s.data.toList c))) ∧ w' = w := Any.strings_Contains_one Try.lays144 s c w
open Go.RowKit Go.Lib in
/-- strings.Contains: "Contains reports whether substr is within s.": IT RETURNS 'Lib.contains s substr'; the world is as it was. (LAID: no walk: one application.) -/
theorem Try.strings_Contains (s sub : ByteArray) (m : Int) (w : World) (hs : s.size < 4294967281) (hm : w.cell? ⟨0, 0, none⟩ = some (.int .i64 m)) :
    Calls Try.prog 51 #[.string s, .string sub] w fun e w' => e = .returned (.bool (Lib.contains s.data.toList sub.data.toList)) ∧ w' = w := Any.strings_Contains Try.lays144 s sub m w hs hm
def Try.lays220_ren : Go.Shelf.Ren := ⟨fun | 220 => 62 | 219 => 63 | 217 => 60 | 225 => 66 | 224 => 67 | 267 => 68 | 266 => 65 | 314 => 69 | n => n, fun | 9 => 9 | 4 => 4 | 3 => 3 | 5 => 5 | 46 => 105 | 146 => 107 | 51 => 106 | n => n, fun | 1 => 0 | n => n⟩
theorem Try.lays220 : Go.Proofs.Lays.n220 Try.prog Try.lays220_ren := {
  mixed := by kernel_rfl
  f217 := Try.func60.trans (congrArg some (by kernel_rfl))
  f219 := Try.func63.trans (congrArg some (by kernel_rfl))
  f220 := Try.func62.trans (congrArg some (by kernel_rfl))
  f224 := Try.func67.trans (congrArg some (by kernel_rfl))
  f225 := Try.func66.trans (congrArg some (by kernel_rfl))
  f266 := Try.func65.trans (congrArg some (by kernel_rfl))
  f267 := Try.func68.trans (congrArg some (by kernel_rfl))
  f314 := Try.func69.trans (congrArg some (by kernel_rfl))
  t3 := Try.underlying3
  a3 := Try.isAgg3
  z3 := Try.sizeOf3
  v3 := Try.zeroValue3
  t4 := Try.underlying4
  a4 := Try.isAgg4
  z4 := Try.sizeOf4
  v4 := Try.zeroValue4
  t5 := Try.underlying5
  a5 := Try.isAgg5
  z5 := Try.sizeOf5
  v5 := Try.zeroValue5
  t9 := Try.underlying9
  a9 := Try.isAgg9
  z9 := Try.sizeOf9
  v9 := Try.zeroValue9
  t46 := Try.underlying105
  a46 := Try.isAgg105
  z46 := Try.sizeOf105
  v46 := Try.zeroValue105
  t51 := Try.underlying106
  a51 := Try.isAgg106
  z51 := Try.sizeOf106
  v51 := Try.zeroValue106
  t146 := Try.underlying107
  a146 := Try.isAgg107
  z146 := Try.sizeOf107
  v146 := Try.zeroValue107
  g1 := by kernel_rfl }
open Go.RowKit Go.Lib in
/-- internal/stringslite.Cut (what strings.Cut calls): IT RETURNS 'Lib.cut s sep'; the world is as it was but for the count of draws. (LAID: no walk: one application.) -/
theorem Try.stringslite_Cut (s sep : ByteArray) (m : Int) (w : World) (hs : s.size < 4294967281) (hm : w.cell? ⟨0, 0, none⟩ = some (.int .i64 m)) :
    Calls Try.prog 62 #[.string s, .string sep] w fun e w' => e = .returned (.tuple #[.string ⟨(Lib.cut s.data.toList sep.data.toList).1.toArray⟩, .string ⟨(Lib.cut s.data.toList sep.data.toList).2.1.toArray⟩, .bool (Lib.cut s.data.toList sep.data.toList).2.2]) ∧ ∃ n, w' = w.drewN n := Any.stringslite_Cut Try.lays220 s sep m w hs hm
def Try.lays145_ren : Go.Shelf.Ren := ⟨fun | 145 => 57 | 220 => 62 | 219 => 63 | 217 => 60 | 225 => 66 | 224 => 67 | 267 => 68 | 266 => 65 | 314 => 69 | n => n, fun | 9 => 9 | 4 => 4 | 59 => 99 | 3 => 3 | 5 => 5 | 46 => 105 | 146 => 107 | 51 => 106 | n => n, fun | 1 => 0 | n => n⟩
theorem Try.lays145 : Go.Proofs.Lays.n145 Try.prog Try.lays145_ren := {
  mixed := by kernel_rfl
  f145 := Try.func57.trans (congrArg some (by kernel_rfl))
  f217 := Try.func60.trans (congrArg some (by kernel_rfl))
  f219 := Try.func63.trans (congrArg some (by kernel_rfl))
  f220 := Try.func62.trans (congrArg some (by kernel_rfl))
  f224 := Try.func67.trans (congrArg some (by kernel_rfl))
  f225 := Try.func66.trans (congrArg some (by kernel_rfl))
  f266 := Try.func65.trans (congrArg some (by kernel_rfl))
  f267 := Try.func68.trans (congrArg some (by kernel_rfl))
  f314 := Try.func69.trans (congrArg some (by kernel_rfl))
  t3 := Try.underlying3
  a3 := Try.isAgg3
  z3 := Try.sizeOf3
  v3 := Try.zeroValue3
  t4 := Try.underlying4
  a4 := Try.isAgg4
  z4 := Try.sizeOf4
  v4 := Try.zeroValue4
  t5 := Try.underlying5
  a5 := Try.isAgg5
  z5 := Try.sizeOf5
  v5 := Try.zeroValue5
  t9 := Try.underlying9
  a9 := Try.isAgg9
  z9 := Try.sizeOf9
  v9 := Try.zeroValue9
  t46 := Try.underlying105
  a46 := Try.isAgg105
  z46 := Try.sizeOf105
  v46 := Try.zeroValue105
  t51 := Try.underlying106
  a51 := Try.isAgg106
  z51 := Try.sizeOf106
  v51 := Try.zeroValue106
  t59 := Try.underlying99
  a59 := Try.isAgg99
  z59 := Try.sizeOf99
  v59 := Try.zeroValue99
  t146 := Try.underlying107
  a146 := Try.isAgg107
  z146 := Try.sizeOf107
  v146 := Try.zeroValue107
  g1 := by kernel_rfl }
open Go.RowKit Go.Lib in
/-- strings.Cut: "Cut slices s around the first instance of sep, returning the text before and after sep. The found result reports whether sep appears in s. If sep does not appear in s, cut returns s, "", false.": IT RETURNS 'Lib.cut s sep'; the world is as it was but for the count of draws. (LAID: no walk: one application.) -/
theorem Try.strings_Cut (s sep : ByteArray) (m : Int) (w : World) (hs : s.size < 4294967281) (hm : w.cell? ⟨0, 0, none⟩ = some (.int .i64 m)) :
    Calls Try.prog 57 #[.string s, .string sep] w fun e w' => e = .returned (.tuple #[.string ⟨(Lib.cut s.data.toList sep.data.toList).1.toArray⟩, .string ⟨(Lib.cut s.data.toList sep.data.toList).2.1.toArray⟩, .bool (Lib.cut s.data.toList sep.data.toList).2.2]) ∧ ∃ n, w' = w.drewN n := Any.strings_Cut Try.lays145 s sep m w hs hm
def Try.laysM219_ren : Go.Shelf.Ren := ⟨fun | 219 => 63 | 217 => 60 | 225 => 66 | 224 => 67 | 267 => 68 | 266 => 65 | 314 => 69 | n => n, fun | 9 => 9 | 3 => 3 | 4 => 4 | 5 => 5 | 46 => 105 | 146 => 107 | 51 => 106 | n => n, fun | 1 => 0 | n => n⟩
theorem Try.laysM219 : Go.Proofs.LaysM.n219 Try.prog Try.laysM219_ren := {
  mixed := by kernel_rfl
  f217 := Try.func60.trans (congrArg some (by kernel_rfl))
  f219 := Try.func63.trans (congrArg some (by kernel_rfl))
  f224 := Try.func67.trans (congrArg some (by kernel_rfl))
  f225 := Try.func66.trans (congrArg some (by kernel_rfl))
  f266 := Try.func65.trans (congrArg some (by kernel_rfl))
  f267 := Try.func68.trans (congrArg some (by kernel_rfl))
  f314 := Try.func69.trans (congrArg some (by kernel_rfl))
  t3 := Try.underlying3
  a3 := Try.isAgg3
  z3 := Try.sizeOf3
  v3 := Try.zeroValue3
  t4 := Try.underlying4
  a4 := Try.isAgg4
  z4 := Try.sizeOf4
  v4 := Try.zeroValue4
  t5 := Try.underlying5
  a5 := Try.isAgg5
  z5 := Try.sizeOf5
  v5 := Try.zeroValue5
  t9 := Try.underlying9
  a9 := Try.isAgg9
  z9 := Try.sizeOf9
  v9 := Try.zeroValue9
  t46 := Try.underlying105
  a46 := Try.isAgg105
  z46 := Try.sizeOf105
  v46 := Try.zeroValue105
  t51 := Try.underlying106
  a51 := Try.isAgg106
  z51 := Try.sizeOf106
  v51 := Try.zeroValue106
  t146 := Try.underlying107
  a146 := Try.isAgg107
  z146 := Try.sizeOf107
  v146 := Try.zeroValue107
  g1 := by kernel_rfl
  i3 := by kernel_rfl
  i4 := by kernel_rfl
  i5 := by kernel_rfl
  i9 := by kernel_rfl
  i46 := by kernel_rfl
  i51 := by kernel_rfl
  i146 := by kernel_rfl
  m1 := by kernel_rfl
  s1_3 := fun w h => Go.Proofs.cell_of_shapedOpen_int (zero := #[.int .i64 0]) (t := 3) h (of_decide_eq_true (by kernel_rfl)) (by kernel_rfl) rfl (by kernel_rfl) (by kernel_rfl) Try.underlying3 }
open Go.RowKit Go.Lib in
theorem Try.stringslite_Index_shaped (s sub : ByteArray) (w : World) (h : w.ShapedOpen Try.prog) (hs : s.size < 4294967281) :
    Calls Try.prog 63 #[.string s, .string sub] w fun e w' => e = .returned (.int .i64 (Lib.index s.data.toList sub.data.toList)) ∧ w' = w := Any.stringslite_Index_shaped Try.laysM219 s sub w h hs
def Try.laysM143_ren : Go.Shelf.Ren := ⟨fun | 143 => 58 | 219 => 63 | 217 => 60 | 225 => 66 | 224 => 67 | 267 => 68 | 266 => 65 | 314 => 69 | n => n, fun | 9 => 9 | 3 => 3 | 4 => 4 | 5 => 5 | 46 => 105 | 146 => 107 | 51 => 106 | n => n, fun | 1 => 0 | n => n⟩
theorem Try.laysM143 : Go.Proofs.LaysM.n143 Try.prog Try.laysM143_ren := {
  mixed := by kernel_rfl
  f143 := Try.func58.trans (congrArg some (by kernel_rfl))
  f217 := Try.func60.trans (congrArg some (by kernel_rfl))
  f219 := Try.func63.trans (congrArg some (by kernel_rfl))
  f224 := Try.func67.trans (congrArg some (by kernel_rfl))
  f225 := Try.func66.trans (congrArg some (by kernel_rfl))
  f266 := Try.func65.trans (congrArg some (by kernel_rfl))
  f267 := Try.func68.trans (congrArg some (by kernel_rfl))
  f314 := Try.func69.trans (congrArg some (by kernel_rfl))
  t3 := Try.underlying3
  a3 := Try.isAgg3
  z3 := Try.sizeOf3
  v3 := Try.zeroValue3
  t4 := Try.underlying4
  a4 := Try.isAgg4
  z4 := Try.sizeOf4
  v4 := Try.zeroValue4
  t5 := Try.underlying5
  a5 := Try.isAgg5
  z5 := Try.sizeOf5
  v5 := Try.zeroValue5
  t9 := Try.underlying9
  a9 := Try.isAgg9
  z9 := Try.sizeOf9
  v9 := Try.zeroValue9
  t46 := Try.underlying105
  a46 := Try.isAgg105
  z46 := Try.sizeOf105
  v46 := Try.zeroValue105
  t51 := Try.underlying106
  a51 := Try.isAgg106
  z51 := Try.sizeOf106
  v51 := Try.zeroValue106
  t146 := Try.underlying107
  a146 := Try.isAgg107
  z146 := Try.sizeOf107
  v146 := Try.zeroValue107
  g1 := by kernel_rfl
  i3 := by kernel_rfl
  i4 := by kernel_rfl
  i5 := by kernel_rfl
  i9 := by kernel_rfl
  i46 := by kernel_rfl
  i51 := by kernel_rfl
  i146 := by kernel_rfl
  m1 := by kernel_rfl
  s1_3 := fun w h => Go.Proofs.cell_of_shapedOpen_int (zero := #[.int .i64 0]) (t := 3) h (of_decide_eq_true (by kernel_rfl)) (by kernel_rfl) rfl (by kernel_rfl) (by kernel_rfl) Try.underlying3 }
open Go.RowKit Go.Lib in
theorem Try.strings_Index_shaped (s sub : ByteArray) (w : World) (h : w.ShapedOpen Try.prog) (hs : s.size < 4294967281) :
    Calls Try.prog 58 #[.string s, .string sub] w fun e w' => e = .returned (.int .i64 (Lib.index s.data.toList sub.data.toList)) ∧ w' = w := Any.strings_Index_shaped Try.laysM143 s sub w h hs
def Try.laysM144_ren : Go.Shelf.Ren := ⟨fun | 144 => 51 | 143 => 58 | 219 => 63 | 217 => 60 | 225 => 66 | 224 => 67 | 267 => 68 | 266 => 65 | 314 => 69 | n => n, fun | 9 => 9 | 4 => 4 | 3 => 3 | 5 => 5 | 46 => 105 | 146 => 107 | 51 => 106 | n => n, fun | 1 => 0 | n => n⟩
theorem Try.laysM144 : Go.Proofs.LaysM.n144 Try.prog Try.laysM144_ren := {
  mixed := by kernel_rfl
  f143 := Try.func58.trans (congrArg some (by kernel_rfl))
  f144 := Try.func51.trans (congrArg some (by kernel_rfl))
  f217 := Try.func60.trans (congrArg some (by kernel_rfl))
  f219 := Try.func63.trans (congrArg some (by kernel_rfl))
  f224 := Try.func67.trans (congrArg some (by kernel_rfl))
  f225 := Try.func66.trans (congrArg some (by kernel_rfl))
  f266 := Try.func65.trans (congrArg some (by kernel_rfl))
  f267 := Try.func68.trans (congrArg some (by kernel_rfl))
  f314 := Try.func69.trans (congrArg some (by kernel_rfl))
  t3 := Try.underlying3
  a3 := Try.isAgg3
  z3 := Try.sizeOf3
  v3 := Try.zeroValue3
  t4 := Try.underlying4
  a4 := Try.isAgg4
  z4 := Try.sizeOf4
  v4 := Try.zeroValue4
  t5 := Try.underlying5
  a5 := Try.isAgg5
  z5 := Try.sizeOf5
  v5 := Try.zeroValue5
  t9 := Try.underlying9
  a9 := Try.isAgg9
  z9 := Try.sizeOf9
  v9 := Try.zeroValue9
  t46 := Try.underlying105
  a46 := Try.isAgg105
  z46 := Try.sizeOf105
  v46 := Try.zeroValue105
  t51 := Try.underlying106
  a51 := Try.isAgg106
  z51 := Try.sizeOf106
  v51 := Try.zeroValue106
  t146 := Try.underlying107
  a146 := Try.isAgg107
  z146 := Try.sizeOf107
  v146 := Try.zeroValue107
  g1 := by kernel_rfl
  i3 := by kernel_rfl
  i4 := by kernel_rfl
  i5 := by kernel_rfl
  i9 := by kernel_rfl
  i46 := by kernel_rfl
  i51 := by kernel_rfl
  i146 := by kernel_rfl
  m1 := by kernel_rfl
  s1_3 := fun w h => Go.Proofs.cell_of_shapedOpen_int (zero := #[.int .i64 0]) (t := 3) h (of_decide_eq_true (by kernel_rfl)) (by kernel_rfl) rfl (by kernel_rfl) (by kernel_rfl) Try.underlying3 }
open Go.RowKit Go.Lib in
theorem Try.strings_Contains_shaped (s sub : ByteArray) (w : World) (h : w.ShapedOpen Try.prog) (hs : s.size < 4294967281) :
    Calls Try.prog 51 #[.string s, .string sub] w fun e w' => e = .returned (.bool (Lib.contains s.data.toList sub.data.toList)) ∧ w' = w := Any.strings_Contains_shaped Try.laysM144 s sub w h hs
def Try.laysM220_ren : Go.Shelf.Ren := ⟨fun | 220 => 62 | 219 => 63 | 217 => 60 | 225 => 66 | 224 => 67 | 267 => 68 | 266 => 65 | 314 => 69 | n => n, fun | 9 => 9 | 4 => 4 | 3 => 3 | 5 => 5 | 46 => 105 | 146 => 107 | 51 => 106 | n => n, fun | 1 => 0 | n => n⟩
theorem Try.laysM220 : Go.Proofs.LaysM.n220 Try.prog Try.laysM220_ren := {
  mixed := by kernel_rfl
  f217 := Try.func60.trans (congrArg some (by kernel_rfl))
  f219 := Try.func63.trans (congrArg some (by kernel_rfl))
  f220 := Try.func62.trans (congrArg some (by kernel_rfl))
  f224 := Try.func67.trans (congrArg some (by kernel_rfl))
  f225 := Try.func66.trans (congrArg some (by kernel_rfl))
  f266 := Try.func65.trans (congrArg some (by kernel_rfl))
  f267 := Try.func68.trans (congrArg some (by kernel_rfl))
  f314 := Try.func69.trans (congrArg some (by kernel_rfl))
  t3 := Try.underlying3
  a3 := Try.isAgg3
  z3 := Try.sizeOf3
  v3 := Try.zeroValue3
  t4 := Try.underlying4
  a4 := Try.isAgg4
  z4 := Try.sizeOf4
  v4 := Try.zeroValue4
  t5 := Try.underlying5
  a5 := Try.isAgg5
  z5 := Try.sizeOf5
  v5 := Try.zeroValue5
  t9 := Try.underlying9
  a9 := Try.isAgg9
  z9 := Try.sizeOf9
  v9 := Try.zeroValue9
  t46 := Try.underlying105
  a46 := Try.isAgg105
  z46 := Try.sizeOf105
  v46 := Try.zeroValue105
  t51 := Try.underlying106
  a51 := Try.isAgg106
  z51 := Try.sizeOf106
  v51 := Try.zeroValue106
  t146 := Try.underlying107
  a146 := Try.isAgg107
  z146 := Try.sizeOf107
  v146 := Try.zeroValue107
  g1 := by kernel_rfl
  i3 := by kernel_rfl
  i4 := by kernel_rfl
  i5 := by kernel_rfl
  i9 := by kernel_rfl
  i46 := by kernel_rfl
  i51 := by kernel_rfl
  i146 := by kernel_rfl
  m1 := by kernel_rfl
  s1_3 := fun w h => Go.Proofs.cell_of_shapedOpen_int (zero := #[.int .i64 0]) (t := 3) h (of_decide_eq_true (by kernel_rfl)) (by kernel_rfl) rfl (by kernel_rfl) (by kernel_rfl) Try.underlying3 }
open Go.RowKit Go.Lib in
theorem Try.stringslite_Cut_shaped (s sep : ByteArray) (w : World) (h : w.ShapedOpen Try.prog) (hs : s.size < 4294967281) :
    Calls Try.prog 62 #[.string s, .string sep] w fun e w' => e = .returned (.tuple #[.string ⟨(Lib.cut s.data.toList sep.data.toList).1.toArray⟩, .string ⟨(Lib.cut s.data.toList sep.data.toList).2.1.toArray⟩, .bool (Lib.cut s.data.toList sep.data.toList).2.2]) ∧ ∃ n, w' = w.drewN n := Any.stringslite_Cut_shaped Try.laysM220 s sep w h hs
def Try.laysM145_ren : Go.Shelf.Ren := ⟨fun | 145 => 57 | 220 => 62 | 219 => 63 | 217 => 60 | 225 => 66 | 224 => 67 | 267 => 68 | 266 => 65 | 314 => 69 | n => n, fun | 9 => 9 | 4 => 4 | 59 => 99 | 3 => 3 | 5 => 5 | 46 => 105 | 146 => 107 | 51 => 106 | n => n, fun | 1 => 0 | n => n⟩
theorem Try.laysM145 : Go.Proofs.LaysM.n145 Try.prog Try.laysM145_ren := {
  mixed := by kernel_rfl
  f145 := Try.func57.trans (congrArg some (by kernel_rfl))
  f217 := Try.func60.trans (congrArg some (by kernel_rfl))
  f219 := Try.func63.trans (congrArg some (by kernel_rfl))
  f220 := Try.func62.trans (congrArg some (by kernel_rfl))
  f224 := Try.func67.trans (congrArg some (by kernel_rfl))
  f225 := Try.func66.trans (congrArg some (by kernel_rfl))
  f266 := Try.func65.trans (congrArg some (by kernel_rfl))
  f267 := Try.func68.trans (congrArg some (by kernel_rfl))
  f314 := Try.func69.trans (congrArg some (by kernel_rfl))
  t3 := Try.underlying3
  a3 := Try.isAgg3
  z3 := Try.sizeOf3
  v3 := Try.zeroValue3
  t4 := Try.underlying4
  a4 := Try.isAgg4
  z4 := Try.sizeOf4
  v4 := Try.zeroValue4
  t5 := Try.underlying5
  a5 := Try.isAgg5
  z5 := Try.sizeOf5
  v5 := Try.zeroValue5
  t9 := Try.underlying9
  a9 := Try.isAgg9
  z9 := Try.sizeOf9
  v9 := Try.zeroValue9
  t46 := Try.underlying105
  a46 := Try.isAgg105
  z46 := Try.sizeOf105
  v46 := Try.zeroValue105
  t51 := Try.underlying106
  a51 := Try.isAgg106
  z51 := Try.sizeOf106
  v51 := Try.zeroValue106
  t59 := Try.underlying99
  a59 := Try.isAgg99
  z59 := Try.sizeOf99
  v59 := Try.zeroValue99
  t146 := Try.underlying107
  a146 := Try.isAgg107
  z146 := Try.sizeOf107
  v146 := Try.zeroValue107
  g1 := by kernel_rfl
  i3 := by kernel_rfl
  i4 := by kernel_rfl
  i5 := by kernel_rfl
  i9 := by kernel_rfl
  i46 := by kernel_rfl
  i51 := by kernel_rfl
  i59 := by kernel_rfl
  i146 := by kernel_rfl
  m1 := by kernel_rfl
  s1_3 := fun w h => Go.Proofs.cell_of_shapedOpen_int (zero := #[.int .i64 0]) (t := 3) h (of_decide_eq_true (by kernel_rfl)) (by kernel_rfl) rfl (by kernel_rfl) (by kernel_rfl) Try.underlying3 }
open Go.RowKit Go.Lib in
theorem Try.strings_Cut_shaped (s sep : ByteArray) (w : World) (h : w.ShapedOpen Try.prog) (hs : s.size < 4294967281) :
    Calls Try.prog 57 #[.string s, .string sep] w fun e w' => e = .returned (.tuple #[.string ⟨(Lib.cut s.data.toList sep.data.toList).1.toArray⟩, .string ⟨(Lib.cut s.data.toList sep.data.toList).2.1.toArray⟩, .bool (Lib.cut s.data.toList sep.data.toList).2.2]) ∧ ∃ n, w' = w.drewN n := Any.strings_Cut_shaped Try.laysM145 s sep w h hs
def Try.lays206_ren : Go.Shelf.Ren := ⟨fun | 206 => 64 | n => n, fun | 9 => 9 | 4 => 4 | 3 => 3 | n => n, fun | n => n⟩
theorem Try.lays206 : Go.Proofs.Lays.n206 Try.prog Try.lays206_ren := {
  mixed := by kernel_rfl
  f206 := Try.func64.trans (congrArg some (by kernel_rfl))
  t3 := Try.underlying3
  a3 := Try.isAgg3
  z3 := Try.sizeOf3
  v3 := Try.zeroValue3
  t4 := Try.underlying4
  a4 := Try.isAgg4
  z4 := Try.sizeOf4
  v4 := Try.zeroValue4
  t9 := Try.underlying9
  a9 := Try.isAgg9
  z9 := Try.sizeOf9
  v9 := Try.zeroValue9 }
open Go.RowKit Go.Lib in
/-- internal/stringslite.HasPrefix (what strings.HasPrefix calls). (LAID: no walk: one application.) -/
theorem Try.stringslite_HasPrefix (s p : ByteArray) (w : World) :
    Calls Try.prog 64 #[.string s, .string p] w fun e w' => e = .returned (.bool (Lib.hasPrefix s.data.toList p.data.toList)) ∧ w' = w := Any.stringslite_HasPrefix Try.lays206 s p w
def Try.lays208_ren : Go.Shelf.Ren := ⟨fun | 208 => 59 | 206 => 64 | n => n, fun | 9 => 9 | 4 => 4 | 3 => 3 | n => n, fun | n => n⟩
theorem Try.lays208 : Go.Proofs.Lays.n208 Try.prog Try.lays208_ren := {
  mixed := by kernel_rfl
  f206 := Try.func64.trans (congrArg some (by kernel_rfl))
  f208 := Try.func59.trans (congrArg some (by kernel_rfl))
  t3 := Try.underlying3
  a3 := Try.isAgg3
  z3 := Try.sizeOf3
  v3 := Try.zeroValue3
  t4 := Try.underlying4
  a4 := Try.isAgg4
  z4 := Try.sizeOf4
  v4 := Try.zeroValue4
  t9 := Try.underlying9
  a9 := Try.isAgg9
  z9 := Try.sizeOf9
  v9 := Try.zeroValue9 }
open Go.RowKit Go.Lib in
/-- internal/stringslite.TrimPrefix (what strings.TrimPrefix calls). (LAID: no walk: one application.) -/
theorem Try.stringslite_TrimPrefix (s p : ByteArray) (w : World) :
    Calls Try.prog 59 #[.string s, .string p] w fun e w' => e = .returned (.string ⟨(Lib.trimPrefix s.data.toList p.data.toList).toArray⟩) ∧ w' = w := Any.stringslite_TrimPrefix Try.lays208 s p w
def Try.lays101_ren : Go.Shelf.Ren := ⟨fun | 101 => 52 | 208 => 59 | 206 => 64 | n => n, fun | 9 => 9 | 4 => 4 | 3 => 3 | n => n, fun | n => n⟩
theorem Try.lays101 : Go.Proofs.Lays.n101 Try.prog Try.lays101_ren := {
  mixed := by kernel_rfl
  f101 := Try.func52.trans (congrArg some (by kernel_rfl))
  f206 := Try.func64.trans (congrArg some (by kernel_rfl))
  f208 := Try.func59.trans (congrArg some (by kernel_rfl))
  t3 := Try.underlying3
  a3 := Try.isAgg3
  z3 := Try.sizeOf3
  v3 := Try.zeroValue3
  t4 := Try.underlying4
  a4 := Try.isAgg4
  z4 := Try.sizeOf4
  v4 := Try.zeroValue4
  t9 := Try.underlying9
  a9 := Try.isAgg9
  z9 := Try.sizeOf9
  v9 := Try.zeroValue9 }
open Go.RowKit Go.Lib in
/-- strings.TrimPrefix: "TrimPrefix returns s without the provided leading prefix string. If s doesn't start with prefix, s is returned unchanged.": IT RETURNS 'Lib.trimPrefix s prefix'; the world is as it was. (LAID: no walk: one application.) -/
theorem Try.strings_TrimPrefix (s p : ByteArray) (w : World) :
    Calls Try.prog 52 #[.string s, .string p] w fun e w' => e = .returned (.string ⟨(Lib.trimPrefix s.data.toList p.data.toList).toArray⟩) ∧ w' = w := Any.strings_TrimPrefix Try.lays101 s p w
end Go.Proofs
