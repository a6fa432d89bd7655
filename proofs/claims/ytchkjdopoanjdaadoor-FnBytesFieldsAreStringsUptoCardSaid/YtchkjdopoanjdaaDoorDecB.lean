/-
  unicode/utf8.DecodeRune at a part of a slice of bytes: the shelf's contract, laid at this translation.
-/
import Derived.Test.YtchkjdopoanjdaaDoorBPlain
import Derived.Test.YtchkjdopoanjdaaDoorTabs
import Derived.Test.YtchkjdopoanjdaaDoorSpecFF
import Derived.Shelf.Spec.DecodeRune
namespace Go.Proofs.YtchkjdopoanjdaaDoor.iters
open Go.RowKit Go.Shelf Go.Lib plain
set_option linter.unusedVariables false

def laysDec_ren : Go.Shelf.Ren := ⟨fun | 32 => 52 | 49 => 57 | n => n, fun | 0 => 0 | 3 => 3 | 4 => 4 | 5 => 5 | 21 => 21 | 25 => 92 | 30 => 33 | 33 => 57 | 66 => 70 | 68 => 94 | 69 => 95 | n => n, fun | 2 => 3 | 3 => 4 | n => n⟩
theorem laysDec : Go.Proofs.Lays7.n32 Tryd.prog laysDec_ren := {
  mixed := by kernel_rfl
  f32 := Tryd.func52.trans (congrArg some (by kernel_rfl))
  f49 := Tryd.func57.trans (congrArg some (by kernel_rfl))
  t0 := Tryd.underlying0
  a0 := Tryd.isAgg0
  z0 := Tryd.sizeOf0
  v0 := Tryd.zeroValue0
  i0 := by kernel_rfl
  t3 := Tryd.underlying3
  a3 := Tryd.isAgg3
  z3 := Tryd.sizeOf3
  v3 := Tryd.zeroValue3
  i3 := by kernel_rfl
  t4 := Tryd.underlying4
  a4 := Tryd.isAgg4
  z4 := Tryd.sizeOf4
  v4 := Tryd.zeroValue4
  i4 := by kernel_rfl
  t5 := Tryd.underlying5
  a5 := Tryd.isAgg5
  z5 := Tryd.sizeOf5
  v5 := Tryd.zeroValue5
  i5 := by kernel_rfl
  t21 := Tryd.underlying21
  a21 := Tryd.isAgg21
  z21 := Tryd.sizeOf21
  v21 := Tryd.zeroValue21
  i21 := by kernel_rfl
  t25 := Tryd.underlying92
  a25 := Tryd.isAgg92
  z25 := Tryd.sizeOf92
  v25 := Tryd.zeroValue92
  i25 := by kernel_rfl
  t30 := Tryd.underlying33
  a30 := Tryd.isAgg33
  z30 := Tryd.sizeOf33
  v30 := Tryd.zeroValue33
  i30 := by kernel_rfl
  t33 := Tryd.underlying57
  a33 := Tryd.isAgg57
  z33 := Tryd.sizeOf57
  v33 := Tryd.zeroValue57
  i33 := by kernel_rfl
  t66 := Tryd.underlying70
  a66 := Tryd.isAgg70
  z66 := Tryd.sizeOf70
  t68 := Tryd.underlying94
  a68 := Tryd.isAgg94
  z68 := Tryd.sizeOf94
  v68 := Tryd.zeroValue94
  i68 := by kernel_rfl
  t69 := Tryd.underlying95
  a69 := Tryd.isAgg95
  z69 := Tryd.sizeOf95
  v69 := Tryd.zeroValue95
  i69 := by kernel_rfl
  g2 := by kernel_rfl
  g3 := by kernel_rfl }

theorem BAt.tail {S : ByteArray} {b o : Nat} {w : World} (h : BAt S b o w) (n : Nat) : ∀ j, j < (S.extract n S.size).size → w.cell? ⟨b, o + n + j, none⟩ = some (.int .u8 ((S.extract n S.size).get! j).toNat) := fun j hj => by
  rw [ByteArray.size_extract] at hj
  have e := ext_at S n (S.size - n) j (by omega) (by omega)
  rw [show n + (S.size - n) = S.size by omega] at e
  rw [e, Nat.add_assoc]
  exact h (n + j) (by omega)
theorem decB (S : ByteArray) (b o c : Nat) (w : World) (hT : U8Tab w) (hB : BAt S b o w) (pos : Nat) (hlt : pos < S.size) :
    Calls Tryd.prog 52 #[.slice (some ⟨b, o + pos, none⟩) (S.size - pos) (c - pos)] w fun e w' => e = .returned (.tuple #[.int .i32 (Utf8.decode S pos).1, .int .i64 (Utf8.decode S pos).2]) ∧ Below w.heap.size w w' := by
  have h := Any7.utf8_DecodeRune laysDec (S.extract pos S.size) b (o + pos) (c - pos) w hT (hB.tail pos)
  have e1 : (S.extract pos S.size).size = S.size - pos := by rw [ByteArray.size_extract]; omega
  have e2 : decodeGo (S.extract pos S.size) = Utf8.decode S pos := by
    unfold decodeGo
    rw [if_neg (by omega), decode_extract]
  rw [e1, e2] at h
  exact h
end Go.Proofs.YtchkjdopoanjdaaDoor.iters
