/-
  Contracts for the byte cutters: bytes.CutPrefix and bytes.CutSuffix hand back a part of their argument; impl.BytesCutPrefix, impl.BytesCutSuffix, spec.CutPrefix and spec.CutSuffix return the same pairs, for all slices and strings.
-/
import Derived.Test.YtenamlnlpbogcaaShelf
import Derived.WalkKit
import Derived.WalkSpells
import Derived.WalkLawsBesides
import Derived.Lib.IndexBytes
import Derived.Lib.SmallJoins
namespace Go.Proofs.Ytenamlnlpbogcaa.cuts
open Go.RowKit
set_option linter.unusedVariables false

/-- p' is p moved on by k cells, wherever n' bytes are left. -/
def Sub (p p' : Option Addr) (k n' : Nat) : Prop := 0 < n' → ∃ b o, p = some ⟨b, o, none⟩ ∧ p' = some ⟨b, o + k, none⟩

theorem Sub.refl {w : World} {p : Option Addr} {n : Nat} {xs : List Int} (h : Lib.BytesIn w p n xs) : Sub p p 0 n := fun hn => by
  obtain ⟨b, o, rfl, _⟩ := h.at hn
  exact ⟨b, o, rfl, rfl⟩

theorem Sub.bytes {w : World} {p p' : Option Addr} {k n n' : Nat} {xs : List Int} (h : Sub p p' k n') (hb : Lib.BytesIn w p n xs) (hk : k + n' ≤ n) : Lib.BytesIn w p' n' ((xs.drop k).take n') := fun hn => by
  obtain ⟨b, o, e1, rfl⟩ := h hn
  obtain ⟨b', o', e2, hc⟩ := hb.at (by omega)
  rw [e1] at e2
  cases e2
  refine ⟨b, o + k, rfl, fun i hi => ?_⟩
  rw [Nat.add_assoc, hc (k + i) (by omega)]
  simp [List.getD, hi, List.getElem?_drop]

/-- How far bytes.CutPrefix moves on. -/
def preK (xs ys : List Int) : Nat := if Lib.hasPrefix (Lib.bytesOf xs) (Lib.bytesOf ys) then ys.length else 0
/-- How much bytes.CutSuffix takes away. -/
def sufK (xs ys : List Int) : Nat := if Lib.hasSuffix (Lib.bytesOf xs) (Lib.bytesOf ys) then ys.length else 0

theorem preK_le (xs ys : List Int) : preK xs ys ≤ xs.length := by
  unfold preK
  split
  · rename_i h
    have := Lib.hasPrefix_le h
    rwa [Lib.bytesOf_length, Lib.bytesOf_length] at this
  · omega
theorem sufK_le (xs ys : List Int) : sufK xs ys ≤ xs.length := by
  unfold sufK
  split
  · rename_i h
    have := Lib.hasSuffix_le h
    rwa [Lib.bytesOf_length, Lib.bytesOf_length] at this
  · omega

theorem pre_sub {w : World} {p : Option Addr} {n c : Nat} {xs ys : List Int} (hx : xs.length = n) (h : Lib.BytesIn w p n xs) (hnc : n ≤ c) :
    ∃ p' c', Lib.trimPrefixV p n c xs ys = .slice p' (n - preK xs ys) c' ∧ Sub p p' (preK xs ys) (n - preK xs ys) := by
  cases ys with
  | nil =>
    have e : Lib.trimPrefixV p n c xs [] = .slice p n c := by unfold Lib.trimPrefixV; split <;> simp_all
    have ek : preK xs [] = 0 := by simp [preK]
    rw [e, ek]
    exact ⟨p, c, rfl, Sub.refl h⟩
  | cons y r =>
    by_cases hp : Lib.hasPrefix (Lib.bytesOf xs) (Lib.bytesOf (y :: r)) = true
    · have hle := Lib.hasPrefix_le hp
      rw [Lib.bytesOf_length, Lib.bytesOf_length, hx] at hle
      obtain ⟨b, o, rfl, _⟩ := h.at (by simp at hle; omega)
      have ek : preK xs (y :: r) = (y :: r).length := by unfold preK; rw [if_pos hp]
      rw [ek]
      show ∃ p' c', Lib.bytesTrimPrefix b o n c xs (y :: r) = _ ∧ _
      unfold Lib.bytesTrimPrefix Lib.sliceFrom
      rw [if_pos hp]
      refine ⟨_, _, rfl, fun hn => ⟨b, o, rfl, ?_⟩⟩
      rw [if_neg (by omega)]
    · have ek : preK xs (y :: r) = 0 := by unfold preK; rw [if_neg hp]
      have e : Lib.trimPrefixV p n c xs (y :: r) = .slice p n c := by
        unfold Lib.trimPrefixV
        split
        · unfold Lib.bytesTrimPrefix; rw [if_neg hp]
        · rfl
      rw [e, ek]
      exact ⟨p, c, rfl, Sub.refl h⟩

theorem suf_sub {w : World} {p : Option Addr} {n c : Nat} {xs ys : List Int} (hx : xs.length = n) (h : Lib.BytesIn w p n xs) :
    ∃ p' c', Lib.trimSuffixV p n c xs ys = .slice p' (n - sufK xs ys) c' ∧ Sub p p' 0 (n - sufK xs ys) := by
  cases ys with
  | nil =>
    have e : Lib.trimSuffixV p n c xs [] = .slice p n c := by unfold Lib.trimSuffixV; split <;> simp_all
    have ek : sufK xs [] = 0 := by simp [sufK]
    rw [e, ek]
    exact ⟨p, c, rfl, Sub.refl h⟩
  | cons y r =>
    by_cases hp : Lib.hasSuffix (Lib.bytesOf xs) (Lib.bytesOf (y :: r)) = true
    · have hle := Lib.hasSuffix_le hp
      rw [Lib.bytesOf_length, Lib.bytesOf_length, hx] at hle
      obtain ⟨b, o, rfl, _⟩ := h.at (by simp at hle; omega)
      have ek : sufK xs (y :: r) = (y :: r).length := by unfold sufK; rw [if_pos hp]
      rw [ek]
      show ∃ p' c', Lib.bytesTrimSuffix b o n c xs (y :: r) = _ ∧ _
      unfold Lib.bytesTrimSuffix Lib.sliceTo
      rw [if_pos hp]
      exact ⟨_, _, rfl, fun hn => ⟨b, o, rfl, rfl⟩⟩
    · have ek : sufK xs (y :: r) = 0 := by unfold sufK; rw [if_neg hp]
      have e : Lib.trimSuffixV p n c xs (y :: r) = .slice p n c := by
        unfold Lib.trimSuffixV
        split
        · unfold Lib.bytesTrimSuffix; rw [if_neg hp]
        · rfl
      rw [e, ek]
      exact ⟨p, c, rfl, Sub.refl h⟩

/-- What CutPrefix and CutSuffix return of strings. -/
def preS (s p : ByteArray) : ByteArray := ⟨(Lib.trimPrefix s.data.toList p.data.toList).toArray⟩
def preB (s p : ByteArray) : Bool := Lib.hasPrefix s.data.toList p.data.toList
def sufS (s p : ByteArray) : ByteArray := ⟨(Lib.trimSuffix s.data.toList p.data.toList).toArray⟩
def sufB (s p : ByteArray) : Bool := Lib.hasSuffix s.data.toList p.data.toList

theorem preS_nums (xs ys : List Int) : strOfNums ((xs.drop (preK xs ys)).take (xs.length - preK xs ys)) = preS (strOfNums xs) (strOfNums ys) := by
  have e : ((xs.drop (preK xs ys)).take (xs.length - preK xs ys)) = xs.drop (preK xs ys) := List.take_of_length_le (by simp)
  rw [e]
  unfold preS
  rw [strOfNums_data, strOfNums_data]
  show strOfNums _ = ⟨(Lib.trimPrefix (Lib.bytesOf xs) (Lib.bytesOf ys)).toArray⟩
  unfold Lib.trimPrefix preK
  split
  · show (⟨(Lib.bytesOf (xs.drop ys.length)).toArray⟩ : ByteArray) = _
    rw [Lib.bytesOf_drop, Lib.bytesOf_length]
  · rfl
theorem sufS_nums (xs ys : List Int) : strOfNums ((xs.drop 0).take (xs.length - sufK xs ys)) = sufS (strOfNums xs) (strOfNums ys) := by
  rw [List.drop_zero]
  unfold sufS
  rw [strOfNums_data, strOfNums_data]
  show strOfNums _ = ⟨(Lib.trimSuffix (Lib.bytesOf xs) (Lib.bytesOf ys)).toArray⟩
  unfold Lib.trimSuffix sufK
  split
  · show (⟨(Lib.bytesOf (xs.take (xs.length - ys.length))).toArray⟩ : ByteArray) = _
    rw [Lib.bytesOf_take, Lib.bytesOf_length, Lib.bytesOf_length]
  · rw [Nat.sub_zero, List.take_length]; rfl
theorem preB_nums (xs ys : List Int) : Lib.hasPrefix (Lib.bytesOf xs) (Lib.bytesOf ys) = preB (strOfNums xs) (strOfNums ys) := rfl
theorem sufB_nums (xs ys : List Int) : Lib.hasSuffix (Lib.bytesOf xs) (Lib.bytesOf ys) = sufB (strOfNums xs) (strOfNums ys) := rfl

/-- 'string(b)'. -/
theorem conv {w : World} {p : Option Addr} {n : Nat} {xs : List Int} (h : Lib.BytesIn w p n xs) (hx : xs.length = n) (c : Nat) : (convert 25 9 (.slice p n c)).run Try.prog w = .ok (.string (strOfNums xs)) w :=
  h.convert hx c 25 5 9 Try.underlying25 Try.underlying5 Try.underlying9

/-- bytes.CutPrefix: a part of the argument. -/
def PrePost (p1 : Option Addr) (n : Nat) (xs ys : List Int) (w : World) (e : Ending) (w' : World) : Prop :=
  ∃ p' c', e = .returned (.tuple #[.slice p' (n - preK xs ys) c', .bool (preB (strOfNums xs) (strOfNums ys))]) ∧ Sub p1 p' (preK xs ys) (n - preK xs ys) ∧ w = w'
theorem bytesCutPrefix (p1 p2 : Option Addr) (n c m d : Nat) (xs ys : List Int) (w : World) (hx : xs.length = n) (hy : ys.length = m) (hnc : n ≤ c) (h1 : Lib.BytesIn w p1 n xs) (h2 : Lib.BytesIn w p2 m ys) :
    Calls Try.prog 24 #[.slice p1 n c, .slice p2 m d] w (PrePost p1 n xs ys w) := by
  refine (Try.bytes_CutPrefix_all p1 p2 n c m d xs ys w hx hy hnc h1 h2).mono fun e w' ⟨he, hw⟩ => ?_
  obtain ⟨p', c', hv, hs⟩ := pre_sub (ys := ys) hx h1 hnc
  rw [hv] at he
  exact ⟨p', c', he, hs, hw.symm⟩
def SufPost (p1 : Option Addr) (n : Nat) (xs ys : List Int) (w : World) (e : Ending) (w' : World) : Prop :=
  ∃ p' c', e = .returned (.tuple #[.slice p' (n - sufK xs ys) c', .bool (sufB (strOfNums xs) (strOfNums ys))]) ∧ Sub p1 p' 0 (n - sufK xs ys) ∧ w = w'
theorem bytesCutSuffix (p1 p2 : Option Addr) (n c m d : Nat) (xs ys : List Int) (w : World) (hx : xs.length = n) (hy : ys.length = m) (hnc : n ≤ c) (hbig : n ≤ 9223372036854775807) (h1 : Lib.BytesIn w p1 n xs) (h2 : Lib.BytesIn w p2 m ys) :
    Calls Try.prog 25 #[.slice p1 n c, .slice p2 m d] w (SufPost p1 n xs ys w) := by
  refine (Try.bytes_CutSuffix_all p1 p2 n c m d xs ys w hx hy hnc hbig h1 h2).mono fun e w' ⟨he, hw⟩ => ?_
  obtain ⟨p', c', hv, hs⟩ := suf_sub (c := c) (ys := ys) hx h1
  rw [hv] at he
  exact ⟨p', c', he, hs, hw.symm⟩

set_option maxHeartbeats 1000000 in
theorem implBytesCutPrefix (p1 p2 : Option Addr) (n c m d : Nat) (xs ys : List Int) (w : World) (hx : xs.length = n) (hy : ys.length = m) (hnc : n ≤ c) (h1 : Lib.BytesIn w p1 n xs) (h2 : Lib.BytesIn w p2 m ys) :
    Calls Try.prog 16 #[.slice p1 n c, .slice p2 m d] w fun e w' => e = .returned (.tuple #[.string (preS (strOfNums xs) (strOfNums ys)), .bool (preB (strOfNums xs) (strOfNums ys))]) ∧ w = w' := by
  have con := bytesCutPrefix p1 p2 n c m d xs ys w hx hy hnc h1 h2
  have key : ∀ p' c', Sub p1 p' (preK xs ys) (n - preK xs ys) → (convert 25 9 (.slice p' (n - preK xs ys) c')).run Try.prog w = .ok (.string (preS (strOfNums xs) (strOfNums ys))) w := fun p' c' hsub => by
    have hle := preK_le xs ys
    rw [← preS_nums xs ys, hx]
    exact conv (hsub.bytes h1 (by omega)) (by simp; omega) c'
  clear hx hy h1 h2
  go_enter Try.func16, Try.ntmps16
  go_wp2_with (go_at_call 24; refine con.mono ?_; rintro e w' ⟨p', c', rfl, hsub, rfl⟩; have hk := key p' c' hsub)
  go_ret2
  exact ⟨rfl, rfl⟩

set_option maxHeartbeats 1000000 in
theorem implBytesCutSuffix (p1 p2 : Option Addr) (n c m d : Nat) (xs ys : List Int) (w : World) (hx : xs.length = n) (hy : ys.length = m) (hnc : n ≤ c) (hbig : n ≤ 9223372036854775807) (h1 : Lib.BytesIn w p1 n xs) (h2 : Lib.BytesIn w p2 m ys) :
    Calls Try.prog 17 #[.slice p1 n c, .slice p2 m d] w fun e w' => e = .returned (.tuple #[.string (sufS (strOfNums xs) (strOfNums ys)), .bool (sufB (strOfNums xs) (strOfNums ys))]) ∧ w = w' := by
  have con := bytesCutSuffix p1 p2 n c m d xs ys w hx hy hnc hbig h1 h2
  have key : ∀ p' c', Sub p1 p' (0) (n - sufK xs ys) → (convert 25 9 (.slice p' (n - sufK xs ys) c')).run Try.prog w = .ok (.string (sufS (strOfNums xs) (strOfNums ys))) w := fun p' c' hsub => by
    have hle := sufK_le xs ys
    rw [← sufS_nums xs ys, hx]
    exact conv (hsub.bytes h1 (by omega)) (by simp; omega) c'
  clear hx hy h1 h2
  go_enter Try.func17, Try.ntmps17
  go_wp2_with (go_at_call 25; refine con.mono ?_; rintro e w' ⟨p', c', rfl, hsub, rfl⟩; have hk := key p' c' hsub)
  go_ret2
  exact ⟨rfl, rfl⟩

set_option maxHeartbeats 1000000 in
theorem specCutPrefix (s p : ByteArray) (w : World) (hs : s.size ≤ 9223372036854775807) (hp : p.size ≤ 9223372036854775807) :
    Calls Try.prog 13 #[.string s, .string p] w fun e w' => e = .returned (.tuple #[.string (preS s p), .bool (preB s p)]) ∧ w = w' := by
  by_cases h1 : p.size ≤ s.size
  · cases h2 : ((s.extract 0 p.size).toList == p.toList)
    · have e1 : preB s p = false := by unfold preB; rw [← Lib.hasPrefix_raw, h2]; simp
      have e2 : preS s p = s := by unfold preS; rw [Lib.trimPrefix_miss s p (by rw [h2]; simp)]
      rw [e1, e2]
      clear e1 e2
      go_enter Try.func13, Try.ntmps13
      go_wp2
      go_ret2
      exact ⟨rfl, rfl⟩
    · have e1 : preB s p = true := by unfold preB; rw [← Lib.hasPrefix_raw, h2]; simp [h1]
      have e2 : preS s p = s.extract p.size s.size := by unfold preS; rw [Lib.trimPrefix_hit s p h1 h2]
      rw [e1, e2]
      clear e1 e2
      go_enter Try.func13, Try.ntmps13
      go_wp2
      go_ret2
      exact ⟨rfl, rfl⟩
  · have e1 : preB s p = false := by unfold preB; rw [← Lib.hasPrefix_raw]; simp [h1]
    have e2 : preS s p = s := by unfold preS; rw [Lib.trimPrefix_miss s p (by simp [h1])]
    rw [e1, e2]
    clear e1 e2
    go_enter Try.func13, Try.ntmps13
    go_wp2
    go_ret2
    exact ⟨rfl, rfl⟩

set_option maxHeartbeats 1000000 in
theorem specCutSuffix (s p : ByteArray) (w : World) (hs : s.size ≤ 9223372036854775807) (hp : p.size ≤ 9223372036854775807) :
    Calls Try.prog 15 #[.string s, .string p] w fun e w' => e = .returned (.tuple #[.string (sufS s p), .bool (sufB s p)]) ∧ w = w' := by
  by_cases h1 : p.size ≤ s.size
  · cases h2 : ((s.extract (s.size - p.size) s.size).toList == p.toList)
    · have e1 : sufB s p = false := by unfold sufB; rw [← Lib.hasSuffix_raw, h2]; simp
      have e2 : sufS s p = s := by unfold sufS; rw [Lib.trimSuffix_miss s p (by rw [h2]; simp)]
      rw [e1, e2]
      clear e1 e2
      go_enter Try.func15, Try.ntmps15
      go_wp2
      go_ret2
      exact ⟨rfl, rfl⟩
    · have e1 : sufB s p = true := by unfold sufB; rw [← Lib.hasSuffix_raw, h2]; simp [h1]
      have e2 : sufS s p = s.extract 0 (s.size - p.size) := by unfold sufS; rw [Lib.trimSuffix_hit s p h1 h2]
      rw [e1, e2]
      clear e1 e2
      go_enter Try.func15, Try.ntmps15
      go_wp2
      go_ret2
      exact ⟨rfl, rfl⟩
  · have e1 : sufB s p = false := by unfold sufB; rw [← Lib.hasSuffix_raw]; simp [h1]
    have e2 : sufS s p = s := by unfold sufS; rw [Lib.trimSuffix_miss s p (by simp [h1])]
    rw [e1, e2]
    clear e1 e2
    go_enter Try.func15, Try.ntmps15
    go_wp2
    go_ret2
    exact ⟨rfl, rfl⟩
end Go.Proofs.Ytenamlnlpbogcaa.cuts
