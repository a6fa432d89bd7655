/-
  The contracts of the shelf at this translation, written out in plain declarations by the kit's tools (lay-shelf, lay-plain), remarks struck.
-/
import Derived.Shelf.Small.Strs
import Derived.Shelf.Strings.Search1
import Derived.Shelf.Slices.Equal
import Derived.Shelf.Bytes.SlIndexAt
import Derived.Shelf.Bytes.IndexByte
import Derived.Test.YtjjhmgledngibaaProg
namespace Go.Proofs
open Go.Shelf
def Try.lays137_ren : Go.Shelf.Ren := ⟨fun | 137 => 21 | 217 => 24 | 266 => 26 | n => n, fun | 9 => 9 | 5 => 5 | 3 => 3 | n => n, fun | n => n⟩
theorem Try.lays137 : Go.Proofs.Lays.n137 Try.prog Try.lays137_ren := {
  mixed := by kernel_rfl
  f137 := Try.func21.trans (congrArg some (by kernel_rfl))
  f217 := Try.func24.trans (congrArg some (by kernel_rfl))
  f266 := Try.func26.trans (congrArg some (by kernel_rfl))
  t3 := Try.underlying3
  a3 := Try.isAgg3
  z3 := Try.sizeOf3
  v3 := Try.zeroValue3
  t5 := Try.underlying5
  a5 := Try.isAgg5
  z5 := Try.sizeOf5
  v5 := Try.zeroValue5
  t9 := Try.underlying9
  a9 := Try.isAgg9
  z9 := Try.sizeOf9
  v9 := Try.zeroValue9 }
open Go.RowKit in
theorem Try.strings_IndexByte (s : ByteArray) (c : Int) (w : World) :
    Calls Try.prog 21 #[.string s, .int .u8 c] w fun e w' => e = .returned (.int .i64 (Lib.indexByte s.data.toList c.toNat.toUInt8)) ∧ w' = w := Any.strings_IndexByte Try.lays137 s c w
def Try.lays217_ren : Go.Shelf.Ren := ⟨fun | 217 => 24 | 266 => 26 | n => n, fun | 9 => 9 | 5 => 5 | 3 => 3 | n => n, fun | n => n⟩
theorem Try.lays217 : Go.Proofs.Lays.n217 Try.prog Try.lays217_ren := {
  mixed := by kernel_rfl
  f217 := Try.func24.trans (congrArg some (by kernel_rfl))
  f266 := Try.func26.trans (congrArg some (by kernel_rfl))
  t3 := Try.underlying3
  a3 := Try.isAgg3
  z3 := Try.sizeOf3
  v3 := Try.zeroValue3
  t5 := Try.underlying5
  a5 := Try.isAgg5
  z5 := Try.sizeOf5
  v5 := Try.zeroValue5
  t9 := Try.underlying9
  a9 := Try.isAgg9
  z9 := Try.sizeOf9
  v9 := Try.zeroValue9 }
open Go.RowKit Go.Lib in
theorem Try.stringslite_IndexByte (s : ByteArray) (c : Int) (w : World) :
    Calls Try.prog 24 #[.string s, .int .u8 c] w fun e w' => e = .returned (.int .i64 (Lib.indexByte s.data.toList c.toNat.toUInt8)) ∧ w' = w := Any.stringslite_IndexByte Try.lays217 s c w
def Try.lays193_ren : Go.Shelf.Ren := ⟨fun | 193 => 11 | n => n, fun | 31 => 22 | 9 => 9 | 4 => 4 | 3 => 3 | 0 => 0 | n => n, fun | n => n⟩
theorem Try.lays193 : Go.Proofs.Lays.n193 Try.prog Try.lays193_ren := {
  mixed := by kernel_rfl
  f193 := Try.func11.trans (congrArg some (by kernel_rfl))
  t0 := Try.underlying0
  a0 := Try.isAgg0
  z0 := Try.sizeOf0
  v0 := Try.zeroValue0
  t3 := Try.underlying3
  a3 := Try.isAgg3
  z3 := Try.sizeOf3
  v3 := Try.zeroValue3
  t4 := Try.underlying4
  a4 := Try.isAgg4
  z4 := Try.sizeOf4
  v4 := Try.zeroValue4
  t9 := Try.underlying9
  a9 := Try.isAgg9
  z9 := Try.sizeOf9
  v9 := Try.zeroValue9
  t31 := Try.underlying22
  a31 := Try.isAgg22
  z31 := Try.sizeOf22
  v31 := Try.zeroValue22 }
open Go.RowKit Go.Lib in
theorem Try.slices_Equal_string (b1 o1 n c b2 o2 m d : Nat) (xs ys : List ByteArray) (w : World) (hx : n ≤ xs.length) (hy : m ≤ ys.length) (hbig : n ≤ 9223372036854775807) (hbig2 : m ≤ 9223372036854775807) (hc1 : ∀ j, j < xs.length → w.cell? ⟨b1, o1 + j, none⟩ = some (.string (xs.getD j ByteArray.empty))) (hc2 : ∀ j, j < ys.length → w.cell? ⟨b2, o2 + j, none⟩ = some (.string (ys.getD j ByteArray.empty))) :
    Calls Try.prog 11 #[.slice (some ⟨b1, o1, none⟩) n c, .slice (some ⟨b2, o2, none⟩) m d] w fun e w' => e = .returned (.bool (decide (xs.take n = ys.take m))) ∧ ∃ q, w' = w.drewN q := Any.slices_Equal_string Try.lays193 b1 o1 n c b2 o2 m d xs ys w hx hy hbig hbig2 hc1 hc2
open Go.RowKit Go.Lib in
theorem Try.slices_Equal_string_empty (a1 a2 : Option Addr) (c m d : Nat) (w : World) (hbig2 : m ≤ 9223372036854775807) :
    Calls Try.prog 11 #[.slice a1 0 c, .slice a2 m d] w fun e w' => e = .returned (.bool (decide (m = 0))) ∧ w' = w := Any.slices_Equal_string_empty Try.lays193 a1 a2 c m d w hbig2
def Try.lays187_ren : Go.Shelf.Ren := ⟨fun | 187 => 23 | 255 => 25 | n => n, fun | 37 => 27 | 5 => 5 | 3 => 3 | n => n, fun | n => n⟩
theorem Try.lays187 : Go.Proofs.Lays.n187 Try.prog Try.lays187_ren := {
  mixed := by kernel_rfl
  f187 := Try.func23.trans (congrArg some (by kernel_rfl))
  f255 := Try.func25.trans (congrArg some (by kernel_rfl))
  t3 := Try.underlying3
  a3 := Try.isAgg3
  z3 := Try.sizeOf3
  v3 := Try.zeroValue3
  t5 := Try.underlying5
  a5 := Try.isAgg5
  z5 := Try.sizeOf5
  v5 := Try.zeroValue5
  t37 := Try.underlying27
  a37 := Try.isAgg27
  z37 := Try.sizeOf27
  v37 := Try.zeroValue27 }
open Go.RowKit Go.Lib in
theorem Try.bytes_IndexByte_at (a : Addr) (n c : Nat) (xs : List Int) (cv : Int) (w : World) (hx : xs.length = n) (hc : ∀ i, i < n → w.cell? (a.add i) = some (.int .u8 (xs.getD i 0))) :
    Calls Try.prog 23 #[.slice (some a) n c, .int .u8 cv] w fun e w' => e = .returned (.int .i64 (Lib.indexByte (Lib.bytesOf xs) cv.toNat.toUInt8)) ∧ w' = w := Any.bytes_IndexByte_at Try.lays187 a n c xs cv w hx hc
theorem Try.bytes_IndexByte (b o n c : Nat) (xs : List Int) (cv : Int) (w : World) (hx : xs.length = n) (hc : ∀ i, i < n → w.cell? ⟨b, o + i, none⟩ = some (.int .u8 (xs.getD i 0))) :
    Calls Try.prog 23 #[.slice (some ⟨b, o, none⟩) n c, .int .u8 cv] w fun e w' => e = .returned (.int .i64 (Lib.indexByte (Lib.bytesOf xs) cv.toNat.toUInt8)) ∧ w' = w := Any.bytes_IndexByte Try.lays187 b o n c xs cv w hx hc
theorem Try.bytes_IndexByte_nil (cv : Int) (w : World) :
    Calls Try.prog 23 #[.slice none 0 0, .int .u8 cv] w fun e w' => e = .returned (.int .i64 (-1)) ∧ w' = w := Any.bytes_IndexByte_nil Try.lays187 cv w
end Go.Proofs
