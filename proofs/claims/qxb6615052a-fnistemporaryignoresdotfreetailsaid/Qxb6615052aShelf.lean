/-
  THE SHELF CONTRACTS ON strings.LastIndex, HasPrefix AT THIS DUMP, IN PLAIN WORDS (written by the kit tools lay-shelf and lay-plain for this program; remarks struck).
-/
import Derived.Shelf.Strings.LastIndex
import Derived.Shelf.Strings.LastIndexAll
import Derived.Shelf.Strings.Prefix
import Derived.Test.Qxb6615052aRows
namespace Go.Proofs
open Go.Shelf
def Try.lays222_ren : Go.Shelf.Ren := ⟨fun | 222 => 13 | n => n, fun | 9 => 9 | 5 => 5 | 3 => 3 | 4 => 4 | n => n, fun | n => n⟩
theorem Try.lays222 : Go.Proofs.Lays.n222 Try.prog Try.lays222_ren := {
  mixed := by kernel_rfl
  f222 := Try.func13.trans (congrArg some (by kernel_rfl))
  t3 := Try.underlying3
  a3 := Try.isAgg3
  z3 := Try.sizeOf3
  v3 := Try.zeroValue3
  t4 := Try.underlying4
  a4 := Try.isAgg4
  z4 := Try.sizeOf4
  v4 := Try.zeroValue4
  t5 := Try.underlying5
  a5 := Try.isAgg5
  z5 := Try.sizeOf5
  v5 := Try.zeroValue5
  t9 := Try.underlying9
  a9 := Try.isAgg9
  z9 := Try.sizeOf9
  v9 := Try.zeroValue9 }
open Go.RowKit Go.Lib in
theorem Try.bytealg_LastIndexByteString_nm (s : ByteArray) (c : Int) (hs : s.size < 4611686018427387904) (w : World) :
    Calls Try.prog 13 #[.string s, .int .u8 c] w fun e w' => e = .returned (.int .i64 (Lib.lastIndexByte s c)) ∧ w' = w := Any.bytealg_LastIndexByteString_nm Try.lays222 s c hs w
def Try.lays148_ren : Go.Shelf.Ren := ⟨fun | 148 => 11 | 222 => 13 | 223 => 14 | 269 => 16 | n => n, fun | 9 => 9 | 3 => 3 | 4 => 4 | 5 => 5 | 146 => 28 | 51 => 27 | 46 => 30 | n => n, fun | n => n⟩
theorem Try.lays148 : Go.Proofs.Lays.n148 Try.prog Try.lays148_ren := {
  mixed := by kernel_rfl
  f148 := Try.func11.trans (congrArg some (by kernel_rfl))
  f222 := Try.func13.trans (congrArg some (by kernel_rfl))
  f223 := Try.func14.trans (congrArg some (by kernel_rfl))
  f269 := Try.func16.trans (congrArg some (by kernel_rfl))
  t3 := Try.underlying3
  a3 := Try.isAgg3
  z3 := Try.sizeOf3
  v3 := Try.zeroValue3
  t4 := Try.underlying4
  a4 := Try.isAgg4
  z4 := Try.sizeOf4
  v4 := Try.zeroValue4
  t5 := Try.underlying5
  a5 := Try.isAgg5
  z5 := Try.sizeOf5
  v5 := Try.zeroValue5
  t9 := Try.underlying9
  a9 := Try.isAgg9
  z9 := Try.sizeOf9
  v9 := Try.zeroValue9
  t46 := Try.underlying30
  a46 := Try.isAgg30
  z46 := Try.sizeOf30
  v46 := Try.zeroValue30
  t51 := Try.underlying27
  a51 := Try.isAgg27
  z51 := Try.sizeOf27
  v51 := Try.zeroValue27
  t146 := Try.underlying28
  a146 := Try.isAgg28
  z146 := Try.sizeOf28
  v146 := Try.zeroValue28 }
open Go.RowKit Go.Lib in
theorem Try.strings_LastIndex_one (s sub : ByteArray) (h1 : sub.size = 1) (hs : s.size < 4611686018427387904) (w : World) :
    Calls Try.prog 11 #[.string s, .string sub] w fun e w' => e = .returned (.int .i64 (Lib.lastIndexByte s ((sub[0]'(by omega)).toNat : Int))) ∧ w' = w := Any.strings_LastIndex_one Try.lays148 s sub h1 hs w
open Go.RowKit Go.Lib in
theorem Try.strings_LastIndex_empty (s sub : ByteArray) (h0 : sub.size = 0) (w : World) :
    Calls Try.prog 11 #[.string s, .string sub] w fun e w' => e = .returned (.int .i64 s.size) ∧ w' = w := Any.strings_LastIndex_empty Try.lays148 s sub h0 w
open Go.RowKit Go.Lib in
theorem Try.strings_LastIndex_longer (s sub : ByteArray) (h2 : 2 ≤ sub.size) (hl : s.size < sub.size) (w : World) :
    Calls Try.prog 11 #[.string s, .string sub] w fun e w' => e = .returned (.int .i64 (-1)) ∧ w' = w := Any.strings_LastIndex_longer Try.lays148 s sub h2 hl w
open Go.RowKit Go.Lib in
theorem Try.strings_LastIndex_whole (s sub : ByteArray) (h2 : 2 ≤ sub.size) (hl : sub.size = s.size) (w : World) :
    Calls Try.prog 11 #[.string s, .string sub] w fun e w' => e = .returned (.int .i64 (if sub = s then 0 else -1)) ∧ w' = w := Any.strings_LastIndex_whole Try.lays148 s sub h2 hl w
def Try.lays269_ren : Go.Shelf.Ren := ⟨fun | 269 => 16 | n => n, fun | 9 => 9 | 51 => 27 | 3 => 3 | 4 => 4 | 5 => 5 | 46 => 30 | n => n, fun | n => n⟩
theorem Try.lays269 : Go.Proofs.Lays.n269 Try.prog Try.lays269_ren := {
  mixed := by kernel_rfl
  f269 := Try.func16.trans (congrArg some (by kernel_rfl))
  t3 := Try.underlying3
  a3 := Try.isAgg3
  z3 := Try.sizeOf3
  v3 := Try.zeroValue3
  t4 := Try.underlying4
  a4 := Try.isAgg4
  z4 := Try.sizeOf4
  v4 := Try.zeroValue4
  t5 := Try.underlying5
  a5 := Try.isAgg5
  z5 := Try.sizeOf5
  v5 := Try.zeroValue5
  t9 := Try.underlying9
  a9 := Try.isAgg9
  z9 := Try.sizeOf9
  v9 := Try.zeroValue9
  t46 := Try.underlying30
  a46 := Try.isAgg30
  z46 := Try.sizeOf30
  v46 := Try.zeroValue30
  t51 := Try.underlying27
  a51 := Try.isAgg27
  z51 := Try.sizeOf27
  v51 := Try.zeroValue27 }
open Go.RowKit Go.Lib in
theorem Try.bytealg_hashStrRev (sep : ByteArray) (hs : sep.size < 4611686018427387904) (w : World) :
    Calls Try.prog 16 #[.string sep] w fun e w' => e = .returned (.tuple #[.int .u32 (RK.H sep.data.toList.reverse % 4294967296), .int .u32 (16777619 ^ sep.size % 4294967296)]) ∧ w' = w := Any.bytealg_hashStrRev Try.lays269 sep hs w
def Try.lays223_ren : Go.Shelf.Ren := ⟨fun | 223 => 14 | 269 => 16 | n => n, fun | 9 => 9 | 3 => 3 | 146 => 28 | 51 => 27 | 4 => 4 | 5 => 5 | 46 => 30 | n => n, fun | n => n⟩
theorem Try.lays223 : Go.Proofs.Lays.n223 Try.prog Try.lays223_ren := {
  mixed := by kernel_rfl
  f223 := Try.func14.trans (congrArg some (by kernel_rfl))
  f269 := Try.func16.trans (congrArg some (by kernel_rfl))
  t3 := Try.underlying3
  a3 := Try.isAgg3
  z3 := Try.sizeOf3
  v3 := Try.zeroValue3
  t4 := Try.underlying4
  a4 := Try.isAgg4
  z4 := Try.sizeOf4
  v4 := Try.zeroValue4
  t5 := Try.underlying5
  a5 := Try.isAgg5
  z5 := Try.sizeOf5
  v5 := Try.zeroValue5
  t9 := Try.underlying9
  a9 := Try.isAgg9
  z9 := Try.sizeOf9
  v9 := Try.zeroValue9
  t46 := Try.underlying30
  a46 := Try.isAgg30
  z46 := Try.sizeOf30
  v46 := Try.zeroValue30
  t51 := Try.underlying27
  a51 := Try.isAgg27
  z51 := Try.sizeOf27
  v51 := Try.zeroValue27
  t146 := Try.underlying28
  a146 := Try.isAgg28
  z146 := Try.sizeOf28
  v146 := Try.zeroValue28 }
open Go.RowKit Go.Lib in
theorem Try.bytealg_LastIndexRabinKarp (s sep : ByteArray) (h1 : 1 ≤ sep.size) (h2 : sep.size ≤ s.size) (hs : s.size < 4611686018427387904) (w : World) :
    Calls Try.prog 14 #[.string s, .string sep] w fun e w' => e = .returned (.int .i64 (Lib.lastIndex s.data.toList sep.data.toList)) ∧ w' = w := Any.bytealg_LastIndexRabinKarp Try.lays223 s sep h1 h2 hs w
open Go.RowKit Go.Lib in
theorem Try.strings_LastIndex_hash (s sub : ByteArray) (h2 : 2 ≤ sub.size) (hl : sub.size < s.size) (hs : s.size < 4611686018427387904) (w : World) :
    Calls Try.prog 11 #[.string s, .string sub] w fun e w' => e = .returned (.int .i64 (Lib.lastIndex s.data.toList sub.data.toList)) ∧ w' = w := Any.strings_LastIndex_hash Try.lays148 s sub h2 hl hs w
open Go.RowKit Go.Lib in
theorem Try.strings_LastIndex (s sub : ByteArray) (hs : s.size < 4611686018427387904) (w : World) :
    Calls Try.prog 11 #[.string s, .string sub] w fun e w' => e = .returned (.int .i64 (Lib.lastIndex s.data.toList sub.data.toList)) ∧ w' = w := Any.strings_LastIndex Try.lays148 s sub hs w
def Try.lays206_ren : Go.Shelf.Ren := ⟨fun | 206 => 15 | n => n, fun | 9 => 9 | 4 => 4 | 3 => 3 | n => n, fun | n => n⟩
theorem Try.lays206 : Go.Proofs.Lays.n206 Try.prog Try.lays206_ren := {
  mixed := by kernel_rfl
  f206 := Try.func15.trans (congrArg some (by kernel_rfl))
  t3 := Try.underlying3
  a3 := Try.isAgg3
  z3 := Try.sizeOf3
  v3 := Try.zeroValue3
  t4 := Try.underlying4
  a4 := Try.isAgg4
  z4 := Try.sizeOf4
  v4 := Try.zeroValue4
  t9 := Try.underlying9
  a9 := Try.isAgg9
  z9 := Try.sizeOf9
  v9 := Try.zeroValue9 }
open Go.RowKit Go.Lib in
theorem Try.stringslite_HasPrefix (s p : ByteArray) (w : World) :
    Calls Try.prog 15 #[.string s, .string p] w fun e w' => e = .returned (.bool (Lib.hasPrefix s.data.toList p.data.toList)) ∧ w' = w := Any.stringslite_HasPrefix Try.lays206 s p w
def Try.lays99_ren : Go.Shelf.Ren := ⟨fun | 99 => 12 | 206 => 15 | n => n, fun | 9 => 9 | 4 => 4 | 3 => 3 | n => n, fun | n => n⟩
theorem Try.lays99 : Go.Proofs.Lays.n99 Try.prog Try.lays99_ren := {
  mixed := by kernel_rfl
  f99 := Try.func12.trans (congrArg some (by kernel_rfl))
  f206 := Try.func15.trans (congrArg some (by kernel_rfl))
  t3 := Try.underlying3
  a3 := Try.isAgg3
  z3 := Try.sizeOf3
  v3 := Try.zeroValue3
  t4 := Try.underlying4
  a4 := Try.isAgg4
  z4 := Try.sizeOf4
  v4 := Try.zeroValue4
  t9 := Try.underlying9
  a9 := Try.isAgg9
  z9 := Try.sizeOf9
  v9 := Try.zeroValue9 }
open Go.RowKit Go.Lib in
theorem Try.strings_HasPrefix (s p : ByteArray) (w : World) :
    Calls Try.prog 12 #[.string s, .string p] w fun e w' => e = .returned (.bool (Lib.hasPrefix s.data.toList p.data.toList)) ∧ w' = w := Any.strings_HasPrefix Try.lays99 s p w
end Go.Proofs
