/-
  The walks of laws.FnBytesLines and laws.FnBytesLinesAreStrings: they return true, for slices and strings of at most 1048576 bytes.
-/
import Derived.Test.YtjjhmgledngibaaWalkA
import Derived.Test.YtjjhmgledngibaaBytesIter
import Derived.Test.YtjjhmgledngibaaBase
import Derived.Deep.RegionHeld3
import Derived.Lib.ConvBytes
import Derived.Lib.SmallJoins
namespace Go.Proofs.Ytjjhmgledngibaa.iters
open Go.RowKit plain base
set_option linter.unusedVariables false

theorem below_bytes {w w' : World} {B : Nat} {p : Option Addr} {n : Nat} {xs : List Int} (hb : Below w.heap.size w w') (h : Lib.BytesIn w p n xs) : Lib.BytesIn w' p n xs := fun hn => by
  obtain ⟨b, o, rfl, hc⟩ := h.at hn
  exact ⟨b, o, rfl, fun i hi => (hb.cell (p := ⟨b, o + i, none⟩) (cell_lt (hc i hi))).trans (hc i hi)⟩

set_option maxHeartbeats 400000 in
theorem walkBytes (a0 : Option Addr) (l0 c0 : Nat) (z0 : List Int) (a1 : Int) (w : World) (w0 : IsRow .u8 w a0 l0 c0 z0) (m0 : c0 ≤ 1048576) (w1 : (Lit.int .i64 a1).wf = true) :
    Calls Try.prog 4 #[.slice a0 l0 c0, .int .i64 a1] w fun e w' => e = .returned (.bool true) ∧ Below w.heap.size w w' := by
  obtain ⟨xs, hx, hxc, hxm, h1, hr⟩ := opened w0
  have hsz : (strOfNums xs).size = l0 := by rw [strOfNums_size, hx]
  have hcv : ∀ W, Below w.heap.size w W → (convert 27 9 (.slice a0 l0 c0)).run Try.prog W = .ok (.string (strOfNums xs)) W := fun W hb => conv (below_bytes (B := 0) hb h1) hx c0
  have con1 : ∀ W, Below w.heap.size w W → Calls Try.prog 12 #[.slice a0 l0 c0, .int .i64 a1] W (StrPost W (seenL (linesB (strOfNums xs)) a1)) := fun W hb => implBytesLines hx hxc (by omega) (by omega) (below_bytes (B := 0) hb h1) a1
  have con2 : ∀ W, Calls Try.prog 14 #[.string (strOfNums xs)] W (StrPost W (linesB (strOfNums xs))) := fun W => specLines (strOfNums xs) (by omega) W
  have hl := linesB_length (strOfNums xs)
  have hl2 := seenL_le (linesB (strOfNums xs)) a1
  have C1 := Lib.hid con1
  have C2 := Lib.hid con2
  have hB0 : Below w.heap.size w w.drew := (Below.refl _ w).drew
  clear w0 w1 hr h1 hx con1 con2
  generalize strOfNums xs = T at *
  have hlen : (linesB T).length ≤ 140737488351232 := by omega
  have hlen2 : (seenL (linesB T) a1).length ≤ 140737488351232 := by omega
  clear hsz hl hl2 hxm
  go_enter Try.func4, Try.ntmps4
  go_wp2_with fail
  go_region_held3 (fun W => Below w.heap.size w W) (first | exact hB0 | assumption) (first | (go_at_call 12; refine (C1.out _ ?_).mono ?_; assumption; rintro e u1 ⟨v1, rfl, hr1, hb1⟩; have hk1 : Below w.heap.size w u1 := Below.trans hB0 (hb1.mono (Nat.le_refl _))) | (go_at_call 14; refine (C2.out _).mono ?_; rintro e u2 ⟨v2, rfl, hr2, hb2⟩; have hr1' := hr1.later hb2; have hk2 : Below w.heap.size w u2 := hk1.trans (hb2.mono hk1.size)) | (go_at_call 13; refine (specSeen hr2 a1 hlen).mono ?_; rintro e u3 ⟨v3, rfl, hr3, rfl⟩) | (go_at_call 11; refine (equal_same hr1' hr3 hlen2).mono ?_; rintro e u4 ⟨rfl, hb4⟩; have hk4 : Below w.heap.size w u4 := hk2.trans (hb4.mono hk2.size)))
  go_wp2
  go_ret
  exact ⟨rfl, by assumption⟩

/-- A string's bytes as numbers. -/
def nums (s : ByteArray) : List Int := s.data.toList.map fun b => (b.toNat : Int)
theorem nums_length (s : ByteArray) : (nums s).length = s.size := by rw [nums, List.length_map, ← Lib.size_eq]
theorem str_nums (s : ByteArray) : strOfNums (nums s) = s := by
  unfold strOfNums nums
  rw [List.map_map]
  have : ((fun n : Int => UInt8.ofNat n.toNat) ∘ fun b : UInt8 => (b.toNat : Int)) = id := by funext b; simp
  rw [this, List.map_id]
/-- '[]byte(s)' holds the bytes of s. -/
theorem bytes_of (w : World) (s : ByteArray) : Lib.BytesIn (Lib.bytesWorld w 5 s) (some ⟨w.heap.size, 0, none⟩) s.size (nums s) := fun hn => by
  refine ⟨w.heap.size, 0, rfl, fun i hi => ?_⟩
  rw [Nat.zero_add, Lib.bytesWorld_cell w 5 s i hi]
  have hi' : i < s.data.toList.length := by rw [← Lib.size_eq]; exact hi
  simp [nums, List.getD, List.getElem?_map, List.getElem?_eq_getElem hi']
theorem implBytes_of (w : World) (s : ByteArray) (hs : s.size ≤ 1048576) (most : Int) :
    Calls Try.prog 12 #[.slice (some ⟨w.heap.size, 0, none⟩) s.size (grownCap w s.size 0 5), .int .i64 most] (Lib.bytesWorld w 5 s) (StrPost (Lib.bytesWorld w 5 s) (seenL (linesB s) most)) := by
  have := implBytesLines (nums_length s) (grownCap_ge w s.size 0 5) (grownCap_le_maxLen w s.size 0 5 (by unfold maxLen; omega)) (by omega) (bytes_of w s) most
  rwa [str_nums] at this

theorem bytesWorld_bel (w : World) (s : ByteArray) : Below w.heap.size w (Lib.bytesWorld w 5 s) := Joins.below_bytesWorld _ w 5 s (Nat.le_refl _)

set_option maxHeartbeats 1000000 in
theorem walkAre (a0 : ByteArray) (a1 : Int) (w : World) (m0 : a0.size ≤ 1048576) (w1 : (Lit.int .i64 a1).wf = true) :
    Calls Try.prog 7 #[.string a0, .int .i64 a1] w fun e w' => e = .returned (.bool true) ∧ Below w.heap.size w w' := by
  have kb := fun (W : World) (s : ByteArray) => Lib.run_convert_string_bytes (P := Try.prog) W 9 27 5 s Try.underlying9 Try.underlying27 Try.underlying5
  have hl := linesB_length a0
  have hl2 := seenL_le (linesB a0) a1
  have hj := join_lines a0
  have hjs : (joinB ⟨#[]⟩ (linesB a0)).size ≤ 4611686018427387904 := by rw [hj]; omega
  have HJ := Lib.hid hj
  have con1 := implBytes_of w a0 m0 a1
  have hB1 := bytesWorld_bel w a0
  have e1 : (a0.toList == a0.toList) = true := by simp
  clear w1 hj
  go_enter Try.func7, Try.ntmps7
  go_wp2_with fail
  refine con1.mono ?_
  rintro e u1 ⟨v1, rfl, hr1, hb1⟩
  have k1 : Below w.heap.size w u1 := hB1.trans (hb1.mono hB1.size)
  clear hB1
  go_wp2_with fail
  refine (implLines a0 (by omega) a1 u1).mono ?_
  rintro e u2 ⟨v2, rfl, hr2, hb2⟩
  have hr1' := hr1.later hb2
  have k2 : Below w.heap.size w u2 := k1.trans (hb2.mono k1.size)
  go_wp2_with fail
  refine (equal_same hr1' hr2 (by omega)).mono ?_
  rintro e u3 ⟨rfl, hb3⟩
  have k3 : Below w.heap.size w u3 := k2.trans (hb3.mono k2.size)
  have con2 := implBytes_of u3 a0 m0 0
  rw [seenL_zero] at con2
  have hB3 := bytesWorld_bel u3 a0
  clear hr1 hr2 hr1' hb1 hb2 hb3 k1 k2 con1
  go_wp2_with fail
  refine con2.mono ?_
  rintro e u4 ⟨v4, rfl, hr4, hb4⟩
  have k4 : Below w.heap.size w u4 := (k3.trans (hB3.mono k3.size)).trans (hb4.mono (Nat.le_trans k3.size hB3.size))
  clear hB3 con2 hb4 k3
  go_wp2_with fail
  refine (joined_any hr4 ⟨#[]⟩ (by omega) hjs).mono ?_
  rintro e u5 ⟨rfl, rfl⟩
  rw [HJ.out]
  clear hr4
  go_wp2
  go_ret
  exact ⟨rfl, k4⟩
end Go.Proofs.Ytjjhmgledngibaa.iters
