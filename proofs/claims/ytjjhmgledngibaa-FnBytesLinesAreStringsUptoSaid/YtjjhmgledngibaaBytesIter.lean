/-
  bytes.Lines: the iterator that it returns yields parts of the slice that are the lines of its bytes; impl.BytesLines returns the first of them as strings, as many as one asks for.
-/
import Derived.Test.YtjjhmgledngibaaIter
import Derived.Shelf.Bytes.SlEqualAll
namespace Go.Proofs.Ytjjhmgledngibaa.iters
open Go.RowKit Go.Shelf plain
set_option linter.unusedVariables false
attribute [local go_sem] Oper.semAt_some

/-- The parts of the slice at ⟨b, o⟩ that hold the pieces of a list, one behind the other, from offset k on. -/
def partsAt (b o : Nat) : Nat → List (List UInt8) → List Part
  | _, [] => []
  | k, x :: r => (some ⟨b, o + k, none⟩, x.length, x.length) :: partsAt b o (k + x.length) r
/-- The bytes of such a part. -/
def strAt (o : Nat) (S : ByteArray) (x : Part) : ByteArray := match x.1 with | some a => S.extract (a.off - o) (a.off - o + x.2.1) | none => ⟨#[]⟩

theorem partsAt_length (b o : Nat) : ∀ (l : List (List UInt8)) (k : Nat), (partsAt b o k l).length = l.length
  | [], _ => rfl
  | x :: r, k => by simp [partsAt, partsAt_length b o r]
theorem partsAt_str (b o : Nat) (S : ByteArray) : ∀ (l : List (List UInt8)) (k : Nat), S.data.toList.drop k = l.flatten → (partsAt b o k l).map (strAt o S) = l.map ba
  | [], _, _ => rfl
  | x :: r, k, h => by
    have h1 : (S.data.toList.drop k).take x.length = x := by rw [h, List.flatten_cons]; exact List.take_left
    have h2 : S.data.toList.drop (k + x.length) = r.flatten := by rw [← List.drop_drop, h, List.flatten_cons]; exact List.drop_left
    have e : strAt o S (some ⟨b, o + k, none⟩, x.length, x.length) = ba x := by
      unfold strAt
      simp only
      rw [Nat.add_sub_cancel_left, extract_ba, Nat.add_sub_cancel_left, h1]
    simp only [partsAt, List.map_cons]
    rw [e, partsAt_str b o S r _ h2]
/-- The lines' parts. -/
def lineParts (b o k : Nat) (l : List UInt8) : List Part := partsAt b o k (lines l)
theorem lineParts_str (b o : Nat) (S : ByteArray) : (lineParts b o 0 S.data.toList).map (strAt o S) = linesB S := partsAt_str b o S _ 0 (by rw [lines_flatten]; rfl)
theorem lineParts_hit (b o k : Nat) (l : List UInt8) (i : Nat) (h : Lib.indexByte l 10 = i) : lineParts b o k l = (some ⟨b, o + k, none⟩, i + 1, i + 1) :: lineParts b o (k + (i + 1)) (l.drop (i + 1)) := by
  have hl := (List.getElem?_eq_some_iff.1 (Lib.indexByte_some h).1).1
  unfold lineParts
  rw [lines_hit l i h, partsAt, List.length_take, Nat.min_eq_left (by omega)]
theorem lineParts_miss (b o k : Nat) (l : List UInt8) (h : Lib.indexByte l 10 = -1) (hl : l ≠ []) : lineParts b o k l = [(some ⟨b, o + k, none⟩, l.length, l.length)] := by
  unfold lineParts
  rw [lines_miss l h hl]
  rfl
theorem lineParts_nil (b o k : Nat) : lineParts b o k [] = [] := rfl

/-- How many bytes the captured slice still has. -/
def leftS (Bs : Nat) (W : World) : Nat := match W.cell? ⟨Bs, 0, none⟩ with | some (.slice _ n _) => n | _ => 0
theorem leftS_eq {Bs : Nat} {W : World} {p : Option Addr} {n c : Nat} (h : W.cell? ⟨Bs, 0, none⟩ = some (.slice p n c)) : leftS Bs W = n := by simp [leftS, h]

/-- The bytes of the slice lie at ⟨b, o⟩. -/
def Lie (W : World) (b o : Nat) (xs : List Int) : Prop := ∀ i, i < xs.length → W.cell? ⟨b, o + i, none⟩ = some (.int .u8 (xs.getD i 0))
theorem Lie.grown {A B : World} {b o Bs : Nat} {xs : List Int} (h : Lie A b o xs) (hg : A.grownBy B (some Bs)) (hb : b ≠ Bs) : Lie B b o xs := fun i hi => by
  have hc := h i hi
  have hlt : b < A.heap.size := by
    rcases Nat.lt_or_ge b A.heap.size with h' | h'
    · exact h'
    · simp [World.cell?, Array.getElem?_eq_none h'] at hc
  rw [← hc]
  exact World.cell?_of_block (a := ⟨b, o + i, none⟩) (hg.block b hlt (fun e => hb (Option.some.inj e)))
theorem Lie.below {A B : World} {b o n0 : Nat} {xs : List Int} (h : Lie A b o xs) (hg : Below n0 A B) (hb : b < n0) : Lie B b o xs := fun i hi => (hg.cell (p := ⟨b, o + i, none⟩) hb).trans (h i hi)
theorem Lie.drop {A : World} {b o : Nat} {xs : List Int} (h : Lie A b o xs) (k : Nat) : ∀ i, i < (xs.drop k).length → A.cell? ⟨b, o + k + i, none⟩ = some (.int .u8 ((xs.drop k).getD i 0)) := fun i hi => by
  rw [List.length_drop] at hi
  rw [Nat.add_assoc, h (k + i) (by omega), Lib.getD_drop]

set_option maxRecDepth 100000 in
set_option maxHeartbeats 4000000 in
theorem blines1_in (l Bs n0 b o c0 : Nat) (xs : List Int) (hs : xs.length ≤ 140737488351232) (hc0 : xs.length ≤ c0) (hcm : c0 ≤ 9223372036854775807) (J Jx : List Part → World → Prop) (aJ : Abides Bs J) (aJx : Abides Bs Jx)
    (hY : ∀ pre x W1, J pre W1 → pre.length < (lineParts b o 0 (Lib.bytesOf xs)).length → (pre ++ [x] = lineParts b o 0 (Lib.bytesOf xs) ∨ pre ++ [x] <+: lineParts b o 0 (Lib.bytesOf xs)) → YieldAt Fence.wide 1 Try.prog l #[.slice x.1 x.2.1 x.2.2] W1 (RoundPost n0 (pre ++ [x]) J Jx W1))
    (W : World) (hB : Boxed W Bs 27 (.slice (some ⟨b, o, none⟩) xs.length c0)) (hL : Lie W b o xs) (hBs : Bs < n0) (hbB : b < Bs) (h0 : J [] W) :
    CallsIn Fence.wide 2 Try.prog 22 #[.func (.yield l) #[] #[], .pointer (some ⟨Bs, 0, none⟩)] W (IterPost (lineParts b o 0 (Lib.bytesOf xs)) J Jx) := by
  refine callsIn_of_wp Try.func22 rfl trivial ?_ rfl
  simp only [Try.ntmps22, List.size_toArray, List.length_cons, List.length_nil, Nat.reduceAdd, Nat.reduceSub, Array.replicate_succ, Array.replicate_zero, List.push_toArray, List.append_toArray, List.nil_append, List.cons_append]
  generalize hP : lineParts b o 0 (Lib.bytesOf xs) = PS at *
  have hP0 := Lib.hid hP
  gi_wp2
  gi_loopw [3] (fun _ wr => ∃ (pre : List Part) (k n c : Nat) (p : Option Addr), Boxed wr Bs 27 (.slice p n c) ∧ k ≤ xs.length ∧ n = xs.length - k ∧ n ≤ c ∧ c ≤ 9223372036854775807 ∧ (0 < n → p = some ⟨b, o + k, none⟩) ∧ PS = pre ++ lineParts b o k ((Lib.bytesOf xs).drop k) ∧ Lie wr b o xs ∧ J pre wr)
    (fun _ wr => leftS Bs wr)
  case atStart =>
    exact ⟨[], 0, xs.length, c0, some ⟨b, o, none⟩, hB, Nat.zero_le _, rfl, hc0, hcm, fun _ => rfl, hP.symm, hL, h0⟩
  case round =>
    obtain ⟨pre, k, n, c, p, hb, hk, hn, hnc, hc, hp, hx, hL, hJ⟩ := hrel
    have hcl := hb.cell
    have hf := hb.frozen
    clear hB h0 hP
    by_cases hz : n = 0
    · have hx2 : PS = pre := by
        rw [hx, List.drop_eq_nil_of_le (by rw [Lib.bytesOf_length]; omega), lineParts_nil, List.append_nil]
      have hz' : ¬ (0 : Int) < (n : Int) := by omega
      have hX := Lib.hid hx2
      clear hx hx2 hz hn hp
      gi_wp2
      go_end0
      exact ⟨⟨_, rfl⟩, .inl ⟨pre, hX.out.symm, hJ⟩⟩
    · obtain rfl := hp (by omega)
      have hpos : (0 : Int) < (n : Int) := by omega
      have hdl : ((Lib.bytesOf xs).drop k).length = n := by rw [List.length_drop, Lib.bytesOf_length, hn]
      have hdx : (xs.drop k).length = n := by rw [List.length_drop, hn]
      have ix := Try.bytes_IndexByte b (o + k) n c (xs.drop k) 10 wr hdx (by rw [← hdx]; exact hL.drop k)
      rw [Lib.bytesOf_drop, show (10 : Int).toNat.toUInt8 = 10 from rfl] at ix
      rcases Int.lt_or_le (Lib.indexByte ((Lib.bytesOf xs).drop k) 10) 0 with hneg | hge
      · -- no newline is left
        have hm : Lib.indexByte ((Lib.bytesOf xs).drop k) 10 = -1 := by have := Lib.indexByte_ge ((Lib.bytesOf xs).drop k) 10; omega
        have con : Calls Try.prog 23 #[.slice (some ⟨b, o + k, none⟩) n c, .int .u8 10] wr fun e w' => e = .returned (.int .i64 (-1)) ∧ wr = w' := ix.mono fun e w' ⟨he, hw⟩ => ⟨by rw [← hm]; exact he, hw.symm⟩
        have hx2 : PS = pre ++ [(some ⟨b, o + k, none⟩, n, n)] := by rw [hx, lineParts_miss b o k _ hm (fun e => by rw [e] at hdl; simp at hdl; omega), hdl]
        have g1 := grownBy_setCell' wr Bs (.slice none 0 0)
        have b1 := hb.set (.slice none 0 0)
        have L1 := hL.grown g1 (by omega)
        obtain ⟨fn, tmps, assign, body, hy, hR⟩ := hY pre (some ⟨b, o + k, none⟩, n, n) _ (aJ _ _ _ hJ g1) (by rw [hx2]; simp) (.inl hx2.symm)
        have hX := Lib.hid hx2
        have hL0 := Lib.hid (leftS_eq hcl)
        have L1' := Lib.hid L1
        clear hx hx2 hm hneg hz ix hn hp hdl hdx hL L1
        dsimp only at hy
        gi_wp2_with (refine ⟨trivial, ?_⟩; gi_at_call 23; refine (callsIn_wide.2 con).mono ?_; rintro e w' ⟨rfl, rfl⟩)
        refine hR.mono ?_
        rintro e W3 (⟨rfl, hJ3, hk3⟩ | ⟨rfl, hJx3⟩)
        · have b3 : Boxed W3 Bs 27 (.slice none 0 0) := (hk3.block Bs hBs).trans b1
          have c3 := b3.cell
          have L3 := L1'.out.below hk3 (by omega)
          gi_wp2
          go_roundw
          case rel => exact ⟨pre ++ [(some ⟨b, o + k, none⟩, n, n)], xs.length, 0, 0, none, b3, Nat.le_refl _, by omega, Nat.le_refl _, by omega, fun h => absurd h (Nat.lt_irrefl 0), by rw [hX.out, List.drop_eq_nil_of_le (by rw [Lib.bytesOf_length]; exact Nat.le_refl _), lineParts_nil, List.append_nil], L3, hJ3⟩
          case measure => rw [leftS_eq c3, hL0.out]; omega
        · gi_wp2
          refine bodyPost_ret (results_none rfl _ _ _) rfl ?_
          exact ⟨⟨_, rfl⟩, .inr ⟨pre ++ [(some ⟨b, o + k, none⟩, n, n)], by rw [hX.out]; exact List.prefix_rfl, hJx3⟩⟩
      · -- a line ends at i
        obtain ⟨i, hi⟩ : ∃ i : Nat, Lib.indexByte ((Lib.bytesOf xs).drop k) 10 = (i : Int) := ⟨(Lib.indexByte ((Lib.bytesOf xs).drop k) 10).toNat, by omega⟩
        have hil : i < n := by
          have := (List.getElem?_eq_some_iff.1 (Lib.indexByte_some hi).1).1
          omega
        have con : Calls Try.prog 23 #[.slice (some ⟨b, o + k, none⟩) n c, .int .u8 10] wr fun e w' => e = .returned (.int .i64 (i : Int)) ∧ wr = w' := ix.mono fun e w' ⟨he, hw⟩ => ⟨by rw [← hi]; exact he, hw.symm⟩
        have hx2 : PS = (pre ++ [(some ⟨b, o + k, none⟩, i + 1, i + 1)]) ++ lineParts b o (k + (i + 1)) ((Lib.bytesOf xs).drop (k + (i + 1))) := by rw [hx, lineParts_hit b o k _ i hi, List.drop_drop]; simp
        have hL0 := Lib.hid (leftS_eq hcl)
        have hX := Lib.hid hx2
        have e1 : IntKind.i64.wrap ((i : Int) + 1) = (i : Int) + 1 := by rw [IntKind.wrap_i64]; omega
        have e2 : ((i : Int) + 1).toNat = i + 1 := by omega
        have e3 : (0 : Int) ≤ (i : Int) + 1 := by omega
        have e4 : (i : Int) + 1 ≤ (n : Int) := by omega
        have e5 : (i : Int) + 1 ≤ (c : Int) := by omega
        have hL' := Lib.hid hL
        have HN := Lib.hid hn
        clear ix hdl hdx hp hi hge hz hL hx
        by_cases hcap : c = i + 1
        · obtain rfl : n = i + 1 := by omega
          subst hcap
          have g1 : wr.grownBy (wr.setCell ⟨Bs, 0, none⟩ (.slice (some ⟨b, o + k, none⟩) 0 0)).drew (some Bs) := ⟨rfl, rfl, rfl, (grownBy_setCell' wr Bs (.slice (some ⟨b, o + k, none⟩) 0 0)).size, (grownBy_setCell' wr Bs (.slice (some ⟨b, o + k, none⟩) 0 0)).block⟩
          have b1 := hb.set (.slice (some ⟨b, o + k, none⟩) 0 0)
          have L1' := Lib.hid (hL'.out.grown g1 (by omega))
          obtain ⟨fn, tmps, assign, body, hy, hR⟩ := hY pre (some ⟨b, o + k, none⟩, i + 1, i + 1) _ (aJ _ _ _ hJ g1) (by rw [hx2]; simp) (.inr (by rw [hx2]; exact List.prefix_append _ _))
          clear hx2 hn g1
          dsimp only at hy
          gi_wp2_with (refine ⟨trivial, ?_⟩; gi_at_call 23; refine (callsIn_wide.2 con).mono ?_; rintro e w' ⟨rfl, rfl⟩)
          gi_region
          gi_wp2
          refine hR.mono ?_
          rintro e W3 (⟨rfl, hJ3, hk3⟩ | ⟨rfl, hJx3⟩)
          · have b3 : Boxed W3 Bs 27 (.slice (some ⟨b, o + k, none⟩) 0 0) := (hk3.block Bs hBs).trans b1
            have c3 := b3.cell
            have L3 := L1'.out.below hk3 (by omega)
            gi_wp2
            go_roundw
            case rel => exact ⟨pre ++ [(some ⟨b, o + k, none⟩, i + 1, i + 1)], k + (i + 1), 0, 0, some ⟨b, o + k, none⟩, b3, by have := HN.out; omega, by have := HN.out; omega, by omega, by omega, fun h => absurd h (Nat.lt_irrefl 0), hX.out, L3, hJ3⟩
            case measure => rw [leftS_eq c3, hL0.out]; omega
          · gi_wp2
            refine bodyPost_ret (results_none rfl _ _ _) rfl ?_
            exact ⟨⟨_, rfl⟩, .inr ⟨pre ++ [(some ⟨b, o + k, none⟩, i + 1, i + 1)], by rw [hX.out]; exact List.prefix_append _ _, hJx3⟩⟩
        · have hcap' : ¬ c = i + 1 := hcap
          have hci : (i : Int) + 1 < (c : Int) := by omega
          have g1 : wr.grownBy (wr.setCell ⟨Bs, 0, none⟩ (.slice (some ⟨b, o + k + (i + 1), none⟩) (n - (i + 1)) (c - (i + 1)))).drew (some Bs) := ⟨rfl, rfl, rfl, (grownBy_setCell' wr Bs (.slice (some ⟨b, o + k + (i + 1), none⟩) (n - (i + 1)) (c - (i + 1)))).size, (grownBy_setCell' wr Bs (.slice (some ⟨b, o + k + (i + 1), none⟩) (n - (i + 1)) (c - (i + 1)))).block⟩
          have b1 := hb.set (.slice (some ⟨b, o + k + (i + 1), none⟩) (n - (i + 1)) (c - (i + 1)))
          have L1' := Lib.hid (hL'.out.grown g1 (by omega))
          obtain ⟨fn, tmps, assign, body, hy, hR⟩ := hY pre (some ⟨b, o + k, none⟩, i + 1, i + 1) _ (aJ _ _ _ hJ g1) (by rw [hx2]; simp) (.inr (by rw [hx2]; exact List.prefix_append _ _))
          clear hx2 hn g1
          dsimp only at hy
          gi_wp2_with (refine ⟨trivial, ?_⟩; gi_at_call 23; refine (callsIn_wide.2 con).mono ?_; rintro e w' ⟨rfl, rfl⟩)
          gi_region
          gi_wp2
          refine hR.mono ?_
          rintro e W3 (⟨rfl, hJ3, hk3⟩ | ⟨rfl, hJx3⟩)
          · have b3 : Boxed W3 Bs 27 (.slice (some ⟨b, o + k + (i + 1), none⟩) (n - (i + 1)) (c - (i + 1))) := (hk3.block Bs hBs).trans b1
            have c3 := b3.cell
            have L3 := L1'.out.below hk3 (by omega)
            gi_wp2
            go_roundw
            case rel => exact ⟨pre ++ [(some ⟨b, o + k, none⟩, i + 1, i + 1)], k + (i + 1), n - (i + 1), c - (i + 1), some ⟨b, o + k + (i + 1), none⟩, b3, by have := HN.out; omega, by have := HN.out; omega, by omega, by omega, fun _ => by rw [Nat.add_assoc], hX.out, L3, hJ3⟩
            case measure => rw [leftS_eq c3, hL0.out]; omega
          · gi_wp2
            refine bodyPost_ret (results_none rfl _ _ _) rfl ?_
            exact ⟨⟨_, rfl⟩, .inr ⟨pre ++ [(some ⟨b, o + k, none⟩, i + 1, i + 1)], by rw [hX.out]; exact List.prefix_append _ _, hJx3⟩⟩

set_option maxRecDepth 100000 in
set_option maxHeartbeats 1000000 in
theorem blines1_none (l Bs c : Nat) (p : Option Addr) (J Jx : List Part → World → Prop) (W : World) (hB : Boxed W Bs 27 (.slice p 0 c)) (h0 : J [] W) :
    CallsIn Fence.wide 2 Try.prog 22 #[.func (.yield l) #[] #[], .pointer (some ⟨Bs, 0, none⟩)] W (IterPost [] J Jx) := by
  refine callsIn_of_wp Try.func22 rfl trivial ?_ rfl
  simp only [Try.ntmps22, List.size_toArray, List.length_cons, List.length_nil, Nat.reduceAdd, Nat.reduceSub, Array.replicate_succ, Array.replicate_zero, List.push_toArray, List.append_toArray, List.nil_append, List.cons_append]
  have hcl := hB.cell
  gi_wp2
  gi_loopw [3] (fun _ wr => wr.cell? ⟨Bs, 0, none⟩ = some (.slice p 0 c) ∧ J [] wr) (fun _ _ => 0)
  case atStart => exact ⟨hcl, h0⟩
  case round =>
    obtain ⟨hc, hJ⟩ := hrel
    gi_wp2
    go_end0
    exact ⟨⟨_, rfl⟩, .inl ⟨[], rfl, hJ⟩⟩

theorem partsAt_mem (b o : Nat) : ∀ (l : List (List UInt8)) (k : Nat) (x : Part), x ∈ partsAt b o k l → ∃ k' len, x = (some ⟨b, o + k', none⟩, len, len) ∧ k' + len ≤ k + l.flatten.length
  | [], _, _, h => by cases h
  | y :: r, k, x, h => by
    rcases List.mem_cons.1 h with rfl | h
    · exact ⟨k, y.length, rfl, by rw [List.flatten_cons, List.length_append]; omega⟩
    · obtain ⟨k', len, e, hle⟩ := partsAt_mem b o r _ x h
      exact ⟨k', len, e, by rw [List.flatten_cons, List.length_append]; omega⟩

theorem cell_lt {w : World} {a : Addr} {v : Value} (h : w.cell? a = some v) : a.block < w.heap.size := by
  rcases Nat.lt_or_ge a.block w.heap.size with h' | h'
  · exact h'
  · simp [World.cell?, Array.getElem?_eq_none h'] at h
theorem conv {w : World} {p : Option Addr} {n : Nat} {xs : List Int} (h : Lib.BytesIn w p n xs) (hx : xs.length = n) (c : Nat) : (convert 27 9 (.slice p n c)).run Try.prog w = .ok (.string (strOfNums xs)) w :=
  h.convert hx c 27 5 9 Try.underlying27 Try.underlying5 Try.underlying9
theorem part_conv {W : World} {b o : Nat} {xs : List Int} (hL : Lie W b o xs) (k len : Nat) (h : k + len ≤ xs.length) : (convert 27 9 (.slice (some ⟨b, o + k, none⟩) len len)).run Try.prog W = .ok (.string ((strOfNums xs).extract k (k + len))) W := by
  have hb : Lib.BytesIn W (some ⟨b, o + k, none⟩) len ((xs.drop k).take len) := fun hn => ⟨b, o + k, rfl, fun i hi => by
    rw [hL.drop k i (by rw [List.length_drop]; omega)]
    simp [List.getD, hi]⟩
  have hc := conv hb (by rw [List.length_take, List.length_drop]; omega) len
  have e : strOfNums ((xs.drop k).take len) = (strOfNums xs).extract k (k + len) := by
    apply ByteArray.ext
    apply Array.toList_inj.1
    rw [Lib.extract_data, strOfNums_data, strOfNums_data, List.map_take, List.map_drop, Nat.add_sub_cancel_left]
  rw [e] at hc
  exact hc

/-- What bytes.Lines' iterator gives, whatever slice it was made of. -/
theorem blines_seq {p : Option Addr} {n c : Nat} {xs : List Int} {w : World} (hx : xs.length = n) (hnc : n ≤ c) (hn47 : n ≤ 140737488351232) (hc : c ≤ 9223372036854775807) (h : Lib.BytesIn w p n xs) :
    ∃ (PS : List Part) (str : Part → ByteArray), PS.map str = linesB (strOfNums xs) ∧ (∀ x ∈ PS, ∀ W, Below w.heap.size w W → (convert 27 9 x.val).run Try.prog W = .ok (.string (str x)) W) ∧
      SeqB Fence.wide 2 Try.prog 22 #[.pointer (some ⟨w.heap.size, 0, none⟩)] (fun x : Part => #[x.val]) (w.heap.size + 1) w.heap.size (fun ys => ys = PS) (fun pre => pre <+: PS) PS.length (w.alloc (.cells #[.slice p n c] 27)) := by
  rcases Nat.eq_zero_or_pos n with h0 | hpos
  · subst h0
    obtain rfl : xs = [] := List.eq_nil_of_length_eq_zero hx
    refine ⟨[], fun _ => ⟨#[]⟩, rfl, fun x hx => (by cases hx), fun l J Jx W hW aJ aJx hY hJ => ?_⟩
    exact blines1_none l _ c p J Jx W ((hW.block _ (Nat.lt_succ_self _)).trans (Boxed.new w 27 _)) hJ
  · obtain ⟨b, o, rfl, hcell⟩ := h.at hpos
    subst hx
    have hlt : b < w.heap.size := cell_lt (hcell 0 hpos)
    have hL : Lie w b o xs := fun i hi => hcell i hi
    have hflat : (lines (Lib.bytesOf xs)).flatten.length = xs.length := by rw [lines_flatten, Lib.bytesOf_length]
    refine ⟨lineParts b o 0 (Lib.bytesOf xs), strAt o (strOfNums xs), lineParts_str b o (strOfNums xs), fun x hx W hW => ?_, fun l J Jx W hW aJ aJx hY hJ => ?_⟩
    · obtain ⟨k, len, rfl, hle⟩ := partsAt_mem b o _ 0 x hx
      rw [hflat, Nat.zero_add] at hle
      have := part_conv (hL.below hW hlt) k len hle
      show (convert 27 9 (.slice (some ⟨b, o + k, none⟩) len len)).run Try.prog W = _
      rw [this]
      simp [strAt]
    · refine blines1_in l _ _ b o c xs (by omega) hnc hc J Jx aJ aJx hY W ((hW.block _ (Nat.lt_succ_self _)).trans (Boxed.new w 27 _)) ?_ (Nat.lt_succ_self _) hlt hJ
      exact (hL.grown (World.grownBy_alloc w _ (some w.heap.size)) (by omega)).below hW (by omega)

set_option maxHeartbeats 1000000 in
theorem bytesLines (p : Option Addr) (n c : Nat) (w : World) :
    Calls Try.prog 19 #[.slice p n c] w fun e w' => e = .returned (.func (.func 22) #[] #[.pointer (some ⟨w.heap.size, 0, none⟩)]) ∧ w.alloc (.cells #[.slice p n c] 27) = w' := by
  go_enter Try.func19, Try.ntmps19
  go_wp2
  go_ret
  exact ⟨rfl, rfl⟩

set_option maxHeartbeats 1000000 in
theorem implBytesLines {p : Option Addr} {n c : Nat} {xs : List Int} {w : World} (hx : xs.length = n) (hnc : n ≤ c) (hc : c ≤ 9223372036854775807) (hn : n ≤ 8388608) (h : Lib.BytesIn w p n xs) (most : Int) :
    Calls Try.prog 12 #[.slice p n c, .int .i64 most] w (StrPost w (seenL (linesB (strOfNums xs)) most)) := by
  have con1 := bytesLines p n c w
  obtain ⟨PS, str, hmap, hconv, hseq⟩ := blines_seq hx hnc (by omega) hc h
  have hsz : (w.alloc (.cells #[.slice p n c] 27)).heap.size = w.heap.size + 1 := World.size_alloc _ _
  have hb : Below w.heap.size w (w.alloc (.cells #[.slice p n c] 27)) := (Below.refl _ w).alloc (Nat.le_refl _) _
  have hlen : PS.length ≤ 8388608 := by
    have h1 := congrArg List.length hmap
    rw [List.length_map] at h1
    have h2 := linesB_length (strOfNums xs)
    rw [strOfNums_size] at h2
    omega
  have con2 := seenBytes_any 22 #[.pointer (some ⟨w.heap.size, 0, none⟩)] (enters_of Try.func22 (by kernel_rfl) rfl) most PS str (w.alloc (.cells #[.slice p n c] 27)) (w.heap.size + 1) w.heap.size w.heap.size
    hseq (by rw [hsz]; exact Nat.le_refl _) (Nat.lt_succ_self _) (Nat.le_refl _) hlen (fun x hx W hW => hconv x hx W (hb.trans hW))
  rw [hmap] at con2
  have con3 : Calls Try.prog 18 #[.func (.func 22) #[] #[.pointer (some ⟨w.heap.size, 0, none⟩)], .int .i64 most] (w.alloc (.cells #[.slice p n c] 27)) (StrPost w (seenL (linesB (strOfNums xs)) most)) := con2.mono fun e w' ⟨v, he, hr, hb'⟩ => ⟨v, he, hr.base (by rw [hsz]; omega), hb.trans hb'⟩
  have C3 := Lib.hid con3
  clear con2 con3 hsz hb hseq hconv hmap hlen hx h
  go_enter Try.func12, Try.ntmps12
  go_wp2_with fail
  refine con1.mono ?_
  rintro e w' ⟨rfl, rfl⟩
  go_wp2_with fail
  refine C3.out.mono ?_
  rintro e w' ⟨v, rfl, hr, hb⟩
  go_wp2
  go_ret
  exact ⟨v, rfl, hr, hb⟩
end Go.Proofs.Ytjjhmgledngibaa.iters
