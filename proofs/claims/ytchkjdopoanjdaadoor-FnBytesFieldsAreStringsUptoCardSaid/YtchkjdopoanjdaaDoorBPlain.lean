/-
  Bytes that lie in memory; the pieces of a string as parts of a slice that holds its bytes.
-/
import Derived.Test.YtchkjdopoanjdaaDoorRest
import Derived.Test.YtchkjdopoanjdaaDoorSeen
import Derived.Test.YtchkjdopoanjdaaDoorBase
import Derived.Lib.ConvBytes
import Derived.Lib.SmallJoins
namespace Go.Proofs.YtchkjdopoanjdaaDoor.iters
open Go.RowKit Go.Shelf Go.Lib plain base
set_option linter.unusedVariables false

theorem restS_ok (p : Nat → Bool) (s : ByteArray) : ∀ (f pos : Nat) (st : Option Nat), pos ≤ s.size → (∀ a, st = some a → a < pos) → ∀ x ∈ restS p s f pos st, x.1 < x.2 ∧ x.2 ≤ s.size := by
  have hl : ∀ (pos : Nat) (st : Option Nat), pos ≤ s.size → (∀ a, st = some a → a < pos) → ∀ x ∈ lastS s st, x.1 < x.2 ∧ x.2 ≤ s.size := by
    intro pos st hp hs x hx
    cases st with
    | none => cases hx
    | some a =>
      have := hs a rfl
      obtain rfl : x = (a, s.size) := by simpa [lastS] using hx
      exact ⟨by simp; omega, Nat.le_refl _⟩
  intro f
  induction f with
  | zero => exact hl
  | succ f ih =>
    intro pos st hp hs x hx
    unfold restS at hx
    by_cases h : pos < s.size
    · rw [if_pos h] at hx
      have hw := width_fit s pos h
      have hw0 := width_pos s pos
      cases hc : p (Utf8.decode s pos).1
      · rw [if_neg (by rw [hc]; simp)] at hx
        cases st with
        | none => exact ih _ (some pos) hw (fun a e => by cases e; omega) x hx
        | some a => exact ih _ (some a) hw (fun b e => by cases e; have := hs a rfl; omega) x hx
      · rw [if_pos hc] at hx
        cases st with
        | none => exact ih _ none hw (fun a e => by cases e) x hx
        | some a =>
          rcases List.mem_cons.1 hx with rfl | hx
          · exact ⟨hs a rfl, hp⟩
          · exact ih _ none hw (fun a e => by cases e) x hx
    · rw [if_neg h] at hx
      exact hl pos st hp hs x hx
theorem spans_ok (p : Nat → Bool) (s : ByteArray) : ∀ x ∈ spansOfP p s, x.1 < x.2 ∧ x.2 ≤ s.size := by
  rw [rest_start]
  exact restS_ok p s s.size 0 none (Nat.zero_le _) (fun a e => by cases e)

/-- The part of the slice at ⟨b, o⟩ that a span is. -/
def pieceAt (b o : Nat) (x : Nat × Nat) : Part := (some ⟨b, o + x.1, none⟩, x.2 - x.1, x.2 - x.1)
/-- The bytes of such a part. -/
def strAt (o : Nat) (S : ByteArray) (x : Part) : ByteArray := match x.1 with | some a => S.extract (a.off - o) (a.off - o + x.2.1) | none => ⟨#[]⟩
theorem piece_snoc (b o : Nat) (pre : List (Nat × Nat)) (a k : Nat) : (pre ++ [(a, k)]).map (pieceAt b o) = pre.map (pieceAt b o) ++ [(some ⟨b, o + a, none⟩, k - a, k - a)] := by simp [pieceAt]
theorem piece_str (b o : Nat) (S : ByteArray) (x : Nat × Nat) (h : x.1 < x.2) : strAt o S (pieceAt b o x) = S.extract x.1 x.2 := by
  unfold strAt pieceAt
  simp only
  rw [Nat.add_sub_cancel_left]
  congr 1
  omega
theorem pieces_str (b o : Nat) (p : Nat → Bool) (S : ByteArray) : ((spansOfP p S).map (pieceAt b o)).map (strAt o S) = goFieldsP p S := by
  unfold goFieldsP
  rw [List.map_map]
  exact List.map_congr_left fun x hx => piece_str b o S x (spans_ok p S x hx).1

/-- The bytes of S lie in the cells from ⟨b, o⟩ on. -/
def BAt (S : ByteArray) (b o : Nat) (w : World) : Prop := ∀ j, j < S.size → w.cell? ⟨b, o + j, none⟩ = some (.int .u8 (S.get! j).toNat)
theorem cell_lt {w : World} {a : Addr} {v : Value} (h : w.cell? a = some v) : a.block < w.heap.size := World.block_lt_of_cell? w _ h
theorem BAt.lt {S : ByteArray} {b o : Nat} {w : World} (h : BAt S b o w) (h0 : 0 < S.size) : b < w.heap.size := cell_lt (h 0 h0)
theorem BAt.keep {S : ByteArray} {b o n0 : Nat} {w w' : World} (h : BAt S b o w) (hb : Below n0 w w') (hn : b < n0) : BAt S b o w' := fun j hj => (hb.cell (p := ⟨b, o + j, none⟩) hn).trans (h j hj)
theorem BAt.below {S : ByteArray} {b o : Nat} {w w' : World} (h : BAt S b o w) (hb : Below w.heap.size w w') : BAt S b o w' := fun j hj => (hb.cell (p := ⟨b, o + j, none⟩) (cell_lt (h j hj))).trans (h j hj)

theorem getB (S : ByteArray) (j : Nat) (h : j < S.size) : S.data.toList[j]? = some (S.get! j) := by
  have e : S.get! j = S.data[j] := getElem!_pos S.data j h
  rw [e, List.getElem?_eq_getElem (by rw [← Lib.size_eq]; exact h)]
  rfl
/-- A string's bytes as numbers. -/
def nums (s : ByteArray) : List Int := s.data.toList.map fun b => (b.toNat : Int)
theorem nums_length (s : ByteArray) : (nums s).length = s.size := by rw [nums, List.length_map, ← Lib.size_eq]
theorem str_nums (s : ByteArray) : strOfNums (nums s) = s := by
  unfold strOfNums nums
  rw [List.map_map]
  have : ((fun n : Int => UInt8.ofNat n.toNat) ∘ fun b : UInt8 => (b.toNat : Int)) = id := by funext b; simp
  rw [this, List.map_id]
theorem nums_at (s : ByteArray) (j : Nat) (h : j < s.size) : (nums s).getD j 0 = ((s.get! j).toNat : Int) := by
  rw [nums, List.getD, List.getElem?_map, getB s j h]
  rfl
theorem ext_at (s : ByteArray) (k n j : Nat) (h : k + n ≤ s.size) (hj : j < n) : (s.extract k (k + n)).get! j = s.get! (k + j) := by
  have hz : (s.extract k (k + n)).size = n := by rw [ByteArray.size_extract]; omega
  have h1 := getB (s.extract k (k + n)) j (by omega)
  rw [Lib.extract_data, List.getElem?_take_of_lt (by omega), List.getElem?_drop, getB s (k + j) (by omega)] at h1
  exact (Option.some.inj h1).symm
theorem part_conv {W : World} {S : ByteArray} {b o : Nat} (hL : BAt S b o W) (k len c : Nat) (h : k + len ≤ S.size) : (convert 33 9 (.slice (some ⟨b, o + k, none⟩) len c)).run Tryd.prog W = .ok (.string (S.extract k (k + len))) W := by
  have hz : (S.extract k (k + len)).size = len := by rw [ByteArray.size_extract]; omega
  have hb : Lib.BytesIn W (some ⟨b, o + k, none⟩) len (nums (S.extract k (k + len))) := fun hn => ⟨b, o + k, rfl, fun i hi => by
    rw [nums_at _ _ (by omega), ext_at S k len i h hi, Nat.add_assoc, hL (k + i) (by omega)]⟩
  have hc := hb.convert (by rw [nums_length, hz]) c 33 5 9 Tryd.underlying33 Tryd.underlying5 Tryd.underlying9
  rwa [str_nums] at hc

/-- A slice that holds the bytes of S. -/
def Holds (w : World) (a : Option Addr) (S : ByteArray) : Prop := 0 < S.size → ∃ b o, a = some ⟨b, o, none⟩ ∧ BAt S b o w
theorem Holds.below {w w' : World} {a : Option Addr} {S : ByteArray} (h : Holds w a S) (hb : Below w.heap.size w w') : Holds w' a S := fun h0 => by
  obtain ⟨b, o, e, hB⟩ := h h0
  exact ⟨b, o, e, hB.below hb⟩
theorem Holds.conv {w : World} {a : Option Addr} {S : ByteArray} (h : Holds w a S) (c : Nat) : (convert 33 9 (.slice a S.size c)).run Tryd.prog w = .ok (.string S) w := by
  have hb : Lib.BytesIn w a S.size (nums S) := fun hn => by
    obtain ⟨b, o, e, hB⟩ := h hn
    exact ⟨b, o, e, fun i hi => by rw [nums_at _ _ hi]; exact hB i hi⟩
  have hc := hb.convert (nums_length S) c 33 5 9 Tryd.underlying33 Tryd.underlying5 Tryd.underlying9
  rwa [str_nums] at hc

theorem strOf_at (xs : List Int) (hr : ∀ x ∈ xs, 0 ≤ x ∧ x ≤ 255) (i : Nat) (hi : i < xs.length) : (((strOfNums xs).get! i).toNat : Int) = xs.getD i 0 := by
  have hs : i < (strOfNums xs).size := by rw [strOfNums_size]; exact hi
  have h1 := getB _ i hs
  rw [strOfNums_data, List.getElem?_map, List.getElem?_eq_getElem hi] at h1
  have h2 := hr _ (List.getElem_mem hi)
  have h3 := Option.some.inj h1
  rw [← h3, List.getD, List.getElem?_eq_getElem hi]
  simp only [Option.getD_some, UInt8.toNat_ofNat']
  omega
/-- A slice of bytes that came in holds a string. -/
theorem holds_of {w : World} {a : Option Addr} {l c : Nat} {zs : List Int} (h : IsRow .u8 w a l c zs) : ∃ S : ByteArray, S.size = l ∧ l ≤ c ∧ c ≤ maxLen ∧ Holds w a S := by
  obtain ⟨xs, hx, hc, hm, hb, hr⟩ := opened h
  refine ⟨strOfNums xs, by rw [strOfNums_size, hx], hc, hm, fun h0 => ?_⟩
  rw [strOfNums_size, hx] at h0
  obtain ⟨b, o, e, hcell⟩ := hb.at h0
  refine ⟨b, o, e, fun j hj => ?_⟩
  rw [strOfNums_size] at hj
  rw [hcell j (by omega), strOf_at xs hr j hj]

/-- '[]byte(s)' holds the bytes of s. -/
theorem bytes_of (w : World) (s : ByteArray) : Holds (Lib.bytesWorld w 5 s) (some ⟨w.heap.size, 0, none⟩) s := fun _ => by
  refine ⟨w.heap.size, 0, rfl, fun i hi => ?_⟩
  rw [Nat.zero_add, Lib.bytesWorld_cell w 5 s i hi, List.getD, getB s i hi]
  rfl
theorem bytesWorld_bel (w : World) (s : ByteArray) : Below w.heap.size w (Lib.bytesWorld w 5 s) := Joins.below_bytesWorld _ w 5 s (Nat.le_refl _)
end Go.Proofs.YtchkjdopoanjdaaDoor.iters
