/-
  The contract of spec.Rune: of a string that is not empty it returns the model's own decoding of its first code point: the code point and how many bytes it has.
-/
import Derived.Test.YtchkjdopoanjdaaDoorDecode
import Derived.Test.YtchkjdopoanjdaaDoorProg
import Derived.WalkKit
import Derived.WalkSpells
import Derived.WalkLawsBesides
import Derived.LoopN
import Derived.Lib.TrimUEq
namespace Go.Proofs.YtchkjdopoanjdaaDoor.runes
open Go.RowKit Go.Lib
set_option linter.unusedVariables false

/-- A code point and its width, as Go returns them. -/
def RunePost (d : Nat × Nat) (w : World) (e : Ending) (w' : World) : Prop := e = .returned (.tuple #[.int .i32 (d.1 : Int), .int .i64 (d.2 : Int)]) ∧ w = w'
theorem post_of {d : Nat × Nat} {w : World} {a b : Int} (ha : a = (d.1 : Int)) (hb : b = (d.2 : Int)) : RunePost d w (.returned (.tuple #[.int .i32 a, .int .i64 b])) w := ⟨by rw [ha, hb], rfl⟩
theorem post_no {d : Nat × Nat} {w : World} (h : d = (65533, 1)) : RunePost d w (.returned (.tuple #[.int .i32 65533, .int .i64 1])) w := ⟨by rw [h]; rfl, rfl⟩

set_option maxRecDepth 100000 in
set_option maxHeartbeats 1000000 in
theorem rune1 (s : ByteArray) (w : World) (b1 b2 b3 : Nat) (hs : 0 < s.size) (hb : s.size ≤ 140737488351232) (h0 : s[0].toNat < 128) :
    Calls Tryd.prog 39 #[.string s] w (RunePost (decodeN s.size s[0].toNat b1 b2 b3) w) := by
  rw [dec1 _ _ _ _ _ h0]
  go_enter Tryd.func39, Tryd.ntmps39
  go_wp2
  go_ret2
  exact post_of rfl rfl
set_option maxRecDepth 100000 in
set_option maxHeartbeats 1000000 in
theorem runeE (s : ByteArray) (w : World) (b1 b2 b3 : Nat) (hs : 0 < s.size) (hb : s.size ≤ 140737488351232) (h0 : (128 ≤ s[0].toNat ∧ s[0].toNat < 192) ∨ 248 ≤ s[0].toNat) :
    Calls Tryd.prog 39 #[.string s] w (RunePost (decodeN s.size s[0].toNat b1 b2 b3) w) := by
  rw [decE _ _ _ _ _ (UInt8.toNat_lt _) h0]
  rcases h0 with ⟨h0, h1⟩ | h0
  all_goals
    go_enter Tryd.func39, Tryd.ntmps39
    go_wp2
    go_ret2
    exact post_no rfl

set_option maxRecDepth 100000 in
set_option maxHeartbeats 1000000 in
theorem rune2_short (s : ByteArray) (w : World) (b1 b2 b3 : Nat) (hs : 0 < s.size) (hn : s.size < 2) (c1 : b1 < 256) (c2 : b2 < 256) (c3 : b3 < 256) (h0 : 192 ≤ s[0].toNat) (h1 : s[0].toNat < 224) :
    Calls Tryd.prog 39 #[.string s] w (RunePost (decodeN s.size s[0].toNat b1 b2 b3) w) := by
  rw [dec2_no _ _ _ _ _ c1 ⟨h0, h1⟩ (.inl hn)]
  go_enter Tryd.func39, Tryd.ntmps39
  go_wp2
  go_ret2
  exact post_no rfl

set_option maxRecDepth 100000 in
set_option maxHeartbeats 4000000 in
theorem rune2 (s : ByteArray) (w : World) (b2 : Nat) (b3 : Nat) (hn : 2 ≤ s.size) (hb : s.size ≤ 140737488351232) (h0 : 192 ≤ s[0].toNat) (h1 : s[0].toNat < 224) :
    Calls Tryd.prog 39 #[.string s] w (RunePost (decodeN s.size s[0].toNat s[1].toNat b2 b3) w) := by
  have c0 := UInt8.toNat_lt s[0]
  have c1 := UInt8.toNat_lt s[1]
  go_enter Tryd.func39, Tryd.ntmps39
  go_wp2
  refine wp_loop_rounds 3 ?_
  rw [rounds_succ]
  go_wp2
  all_goals (first | (rw [rounds_succ]; go_wp2) | skip)
  all_goals go_ret2
  all_goals first
    | exact post_no (dec2_no _ _ _ _ _ (by omega) (by omega) (by omega))
    | (rw [dec2_ok _ _ _ _ _ (by omega) (by omega) (by omega) (by omega)]; exact post_of (by simp only; omega) (by simp only; omega))

set_option maxRecDepth 100000 in
set_option maxHeartbeats 1000000 in
theorem rune3_short (s : ByteArray) (w : World) (b1 b2 b3 : Nat) (hs : 0 < s.size) (hn : s.size < 3) (c1 : b1 < 256) (c2 : b2 < 256) (c3 : b3 < 256) (h0 : 224 ≤ s[0].toNat) (h1 : s[0].toNat < 240) :
    Calls Tryd.prog 39 #[.string s] w (RunePost (decodeN s.size s[0].toNat b1 b2 b3) w) := by
  rw [dec3_no _ _ _ _ _ c1 c2 ⟨h0, h1⟩ (.inl hn)]
  go_enter Tryd.func39, Tryd.ntmps39
  go_wp2
  go_ret2
  exact post_no rfl

set_option maxRecDepth 100000 in
set_option maxHeartbeats 4000000 in
theorem rune3 (s : ByteArray) (w : World) (b3 : Nat) (hn : 3 ≤ s.size) (hb : s.size ≤ 140737488351232) (h0 : 224 ≤ s[0].toNat) (h1 : s[0].toNat < 240) :
    Calls Tryd.prog 39 #[.string s] w (RunePost (decodeN s.size s[0].toNat s[1].toNat s[2].toNat b3) w) := by
  have c0 := UInt8.toNat_lt s[0]
  have c1 := UInt8.toNat_lt s[1]
  have c2 := UInt8.toNat_lt s[2]
  go_enter Tryd.func39, Tryd.ntmps39
  go_wp2
  refine wp_loop_rounds 4 ?_
  rw [rounds_succ]
  go_wp2
  all_goals (first | (rw [rounds_succ]; go_wp2) | skip)
  all_goals (first | (rw [rounds_succ]; go_wp2) | skip)
  all_goals go_ret2
  all_goals first
    | exact post_no (dec3_no _ _ _ _ _ (by omega) (by omega) (by omega) (by omega))
    | (rw [dec3_ok _ _ _ _ _ (by omega) (by omega) (by omega) (by omega) (by omega) (by omega)]; exact post_of (by simp only; omega) (by simp only; omega))

set_option maxRecDepth 100000 in
set_option maxHeartbeats 1000000 in
theorem rune4_short (s : ByteArray) (w : World) (b1 b2 b3 : Nat) (hs : 0 < s.size) (hn : s.size < 4) (c1 : b1 < 256) (c2 : b2 < 256) (c3 : b3 < 256) (h0 : 240 ≤ s[0].toNat) (h1 : s[0].toNat < 248) :
    Calls Tryd.prog 39 #[.string s] w (RunePost (decodeN s.size s[0].toNat b1 b2 b3) w) := by
  rw [dec4_no _ _ _ _ _ c1 c2 c3 ⟨h0, h1⟩ (.inl hn)]
  go_enter Tryd.func39, Tryd.ntmps39
  go_wp2
  go_ret2
  exact post_no rfl

set_option maxRecDepth 100000 in
set_option maxHeartbeats 4000000 in
theorem rune4 (s : ByteArray) (w : World) (hn : 4 ≤ s.size) (hb : s.size ≤ 140737488351232) (h0 : 240 ≤ s[0].toNat) (h1 : s[0].toNat < 248) :
    Calls Tryd.prog 39 #[.string s] w (RunePost (decodeN s.size s[0].toNat s[1].toNat s[2].toNat s[3].toNat) w) := by
  have c0 := UInt8.toNat_lt s[0]
  have c1 := UInt8.toNat_lt s[1]
  have c2 := UInt8.toNat_lt s[2]
  have c3 := UInt8.toNat_lt s[3]
  go_enter Tryd.func39, Tryd.ntmps39
  go_wp2
  refine wp_loop_rounds 5 ?_
  rw [rounds_succ]
  go_wp2
  all_goals (first | (rw [rounds_succ]; go_wp2) | skip)
  all_goals (first | (rw [rounds_succ]; go_wp2) | skip)
  all_goals (first | (rw [rounds_succ]; go_wp2) | skip)
  all_goals go_ret2
  all_goals first
    | exact post_no (dec4_no _ _ _ _ _ (by omega) (by omega) (by omega) (by omega) (by omega))
    | (rw [dec4_ok _ _ _ _ _ (by omega) (by omega) (by omega) (by omega) (by omega) (by omega) (by omega)]; exact post_of (by simp only; omega) (by simp only; omega))


theorem get_at (s : ByteArray) (k : Nat) (h : k < s.size) : s.get! k = s[k] := by
  show s.data[k]! = s.data[k]
  exact getElem!_pos s.data k h

/-- spec.Rune of a string that is not empty. -/
theorem specRune (s : ByteArray) (w : World) (hs : 0 < s.size) (hb : s.size ≤ 140737488351232) :
    Calls Tryd.prog 39 #[.string s] w (RunePost (Utf8.decode s 0) w) := by
  rw [Lib.decode_at s 0, Nat.sub_zero, Nat.zero_add, Nat.zero_add, Nat.zero_add, get_at s 0 hs]
  have d1 := UInt8.toNat_lt (s.get! 1)
  have d2 := UInt8.toNat_lt (s.get! 2)
  have d3 := UInt8.toNat_lt (s.get! 3)
  by_cases a1 : s[0].toNat < 128
  · exact rune1 s w _ _ _ hs hb a1
  by_cases a2 : s[0].toNat < 192
  · exact runeE s w _ _ _ hs hb (.inl ⟨by omega, a2⟩)
  by_cases a3 : s[0].toNat < 224
  · by_cases hn : s.size < 2
    · exact rune2_short s w _ _ _ hs hn d1 d2 d3 (by omega) a3
    · rw [get_at s 1 (by omega)]
      exact rune2 s w _ _ (by omega) hb (by omega) a3
  by_cases a4 : s[0].toNat < 240
  · by_cases hn : s.size < 3
    · exact rune3_short s w _ _ _ hs hn d1 d2 d3 (by omega) a4
    · rw [get_at s 1 (by omega), get_at s 2 (by omega)]
      exact rune3 s w _ (by omega) hb (by omega) a4
  by_cases a5 : s[0].toNat < 248
  · by_cases hn : s.size < 4
    · exact rune4_short s w _ _ _ hs hn d1 d2 d3 (by omega) a5
    · rw [get_at s 1 (by omega), get_at s 2 (by omega), get_at s 3 (by omega)]
      exact rune4 s w (by omega) hb (by omega) a5
  · exact runeE s w _ _ _ hs hb (.inr (by omega))
end Go.Proofs.YtchkjdopoanjdaaDoor.runes
