/-
  Contracts for the functions that write a byte into a copy: slices.Clone at []byte, laws.poked, impl.BytesCutPrefixPoke, impl.BytesCutSuffixPoke, for all slices of at most 140737488351232 bytes.
-/
import Derived.Test.YtenamlnlpbogcaaBytes
import Derived.Test.YtenamlnlpbogcaaBase
import Derived.Laws.AppendOwn
import Derived.Laws.AppendOwnNone
import Derived.Laws.OwnMore
import Derived.OwnWalk
import Derived.Lib.Hide
namespace Go.Proofs.Ytenamlnlpbogcaa.pokes
open Go.RowKit cuts base
set_option linter.unusedVariables false

theorem info5 : (Try.prog.info? 5).map (fun i => (i.zero, i.size, i.bytes)) = some (some (.int .u8 0), 1, 1) := by kernel_rfl

/-- A slice that came in: nil, or at an address with its cells. -/
def Src (w : World) (p : Option Addr) (n c : Nat) (xs : List Int) : Prop :=
  (p = none ∧ n = 0 ∧ c = 0 ∧ xs = []) ∨ ∃ a, p = some a ∧ xs.length = n ∧ ∀ i, i < n → w.cell? (a.add i) = some (.int .u8 (xs.getD i 0))

theorem src_of {w : World} {a : Option Addr} {len cap : Nat} {zs : List Int} (h : IsRow .u8 w a len cap zs) : Src w a len cap (zs.take len) ∧ len ≤ cap := by
  rcases h with ⟨rfl, rfl, rfl, rfl⟩ | ⟨x, rfl, hl, hm, hz, hcell, hwf⟩
  · exact ⟨.inl ⟨rfl, rfl, rfl, rfl⟩, Nat.le_refl _⟩
  · refine ⟨.inr ⟨x, rfl, by simp; omega, fun i hi => ?_⟩, hl⟩
    rw [hcell i (by omega)]
    simp [List.getD, hi]
theorem Src.length {w : World} {p : Option Addr} {n c : Nat} {xs : List Int} (h : Src w p n c xs) : xs.length = n := by
  rcases h with ⟨_, rfl, _, rfl⟩ | ⟨_, _, h, _⟩
  · rfl
  · exact h
theorem Src.bytes {w : World} {p : Option Addr} {n c : Nat} {xs : List Int} (h : Src w p n c xs) : Lib.BytesIn w p n xs := by
  rcases h with ⟨rfl, rfl, rfl, rfl⟩ | ⟨a, rfl, h, hc⟩
  · exact Lib.BytesIn.nil _ _ _
  · exact Lib.BytesIn.of_cells hc

theorem cell_lt {w : World} {a : Addr} {v : Value} (h : w.cell? a = some v) : a.block < w.heap.size := by
  rcases Nat.lt_or_ge a.block w.heap.size with h' | h'
  · exact h'
  · simp [World.cell?, Array.getElem?_eq_none h'] at h
theorem below_bytes {w w' : World} {p : Option Addr} {n : Nat} {xs : List Int} (hb : Below w.heap.size w w') (h : Lib.BytesIn w p n xs) : Lib.BytesIn w' p n xs := fun hn => by
  obtain ⟨b, o, rfl, hc⟩ := h.at hn
  exact ⟨b, o, rfl, fun i hi => (hb.cell (p := ⟨b, o + i, none⟩) (cell_lt (hc i hi))).trans (hc i hi)⟩

/-- What is the call's own, as a slice value. -/
theorem own_form {w : World} {B n : Nat} {v : Value} {xs : List Int} (h : w.ownsRow B 5 1 v n (xs.map (Value.int .u8))) :
    ∃ q c, v = .slice q n c ∧ n ≤ c ∧ (0 < n → ∃ g, q = some ⟨g, 0, none⟩ ∧ B ≤ g) := by
  rcases h.2 with ⟨rfl, rfl⟩ | ⟨g, cap, cur, rfl, hb, _, hc, _⟩
  · exact ⟨none, 0, rfl, Nat.le_refl _, fun h => absurd h (Nat.lt_irrefl 0)⟩
  · exact ⟨_, cap, rfl, hc, fun _ => ⟨g, rfl, hb⟩⟩
theorem own_bytes {w : World} {B n : Nat} {q : Option Addr} {c : Nat} {xs : List Int} (h : w.ownsRow B 5 1 (.slice q n c) n (xs.map (Value.int .u8))) : Lib.BytesIn w q n xs := fun hn => by
  obtain ⟨q', c', e, _, hg⟩ := own_form h
  cases e
  obtain ⟨g, rfl, _⟩ := hg hn
  refine ⟨g, 0, rfl, fun i hi => ?_⟩
  have hl : xs.length = n := by have := h.1; simpa using this
  rw [Nat.zero_add, h.cellAt i (by omega)]
  simp [List.getD, List.getElem?_eq_getElem (show i < xs.length by omega)]

set_option maxHeartbeats 2000000 in
set_option maxRecDepth 100000 in
theorem clone_at (a : Addr) (n c : Nat) (xs : List Int) (w : World) (hx : xs.length = n) (hbig : n ≤ 140737488351232) (hc : ∀ i, i < n → w.cell? (a.add i) = some (.int .u8 (xs.getD i 0))) :
    Calls Try.prog 26 #[.slice (some a) n c] w fun e w' => ∃ v', e = .returned v' ∧ w'.ownsRow w.heap.size 5 1 v' n (xs.map (Value.int .u8)) ∧ Below w.heap.size w w' := by
  obtain ⟨i0, hi, hz0, hz1, hz2⟩ := info_parts info5
  have q22 : ∀ (w : World) (a : Option Addr) (n c n' c' : Nat), (binOp .eql 25 (.slice a n c) (.slice none n' c')).run Try.prog w = .ok (.bool a.isNone) w := fun w a n c n' c' => Lib.run_eql_slice_nil w _ _ a n c n' c' Try.underlying25
  have A := Lib.hid hc
  clear hc
  go_enter Try.func26, Try.ntmps26
  go_wp2_with (at_builtin; refine wpList_append_own _ rfl _ _ 25 rfl w.heap.size 5 i0 (.int .u8 0) 1 1 Try.underlying25 hi hz0 hz1 hz2 rfl (by decide) _ _ _ rfl (World.ownsRow_made w #[] 0 (Nat.le_refl _) (Nat.zero_le _) rfl) a n c (xs.map (Value.int .u8)) rfl ?qc1 ?qc2 ?qc3 ?qc4 ?qc5 ?qc6 ?_)
  case qc1 => simp; omega
  case qc2 =>
    intro j u hj
    have hjn : j < n := by
      have := (List.getElem?_eq_some_iff.1 hj).1
      simp at this
      omega
    refine Lib.cell?_alloc_some _ ?_
    rw [A.out j hjn]
    have e : (xs.map (Value.int .u8))[j]? = some (Value.int .u8 (xs.getD j 0)) := by simp [List.getD, List.getElem?_eq_getElem (show j < xs.length by omega)]
    rw [e] at hj
    exact hj
  case qc3 => intro u hu; obtain ⟨x, _, rfl⟩ := List.mem_map.1 hu; rfl
  case qc4 => unfold maxLen; omega
  case qc5 => omega
  case qc6 => simp
  intro v' w1 hown hgrow hnil
  go_wp2
  go_ret
  refine ⟨v', rfl, by simpa using hown, ?_⟩
  exact ((Below.refl _ w).alloc (Nat.le_refl _) _).grown hgrow (by simp) (by intro k hk; simp [Value.ownBlock] at hk; omega)

set_option maxHeartbeats 1000000 in
theorem clone_nil (w : World) :
    Calls Try.prog 26 #[.slice none 0 0] w fun e w' => e = .returned (.slice none 0 0) ∧ w = w' := by
  have q22 : ∀ (w : World) (a : Option Addr) (n c n' c' : Nat), (binOp .eql 25 (.slice a n c) (.slice none n' c')).run Try.prog w = .ok (.bool a.isNone) w := fun w a n c n' c' => Lib.run_eql_slice_nil w _ _ a n c n' c' Try.underlying25
  go_enter Try.func26, Try.ntmps26
  go_wp2
  go_ret
  exact ⟨rfl, rfl⟩

/-- A slice of the call's own that holds xs. -/
def OwnPost (w : World) (n : Nat) (xs : List Int) (e : Ending) (w' : World) : Prop :=
  ∃ q c, e = .returned (.slice q n c) ∧ n ≤ c ∧ (0 < n → ∃ g, q = some ⟨g, 0, none⟩ ∧ w.heap.size ≤ g) ∧ w'.ownsRow w.heap.size 5 1 (.slice q n c) n (xs.map (Value.int .u8)) ∧ Below w.heap.size w w'
theorem clone_any {p : Option Addr} {n c : Nat} {xs : List Int} {w : World} (h : Src w p n c xs) (hbig : n ≤ 140737488351232) : Calls Try.prog 26 #[.slice p n c] w (OwnPost w n xs) := by
  rcases h with ⟨rfl, rfl, rfl, rfl⟩ | ⟨a, rfl, hx, hc⟩
  · refine (clone_nil w).mono fun e w' ⟨he, hw⟩ => ?_
    subst hw
    exact ⟨none, 0, he, Nat.le_refl _, fun h => absurd h (Nat.lt_irrefl 0), World.ownsRow_nil _ _ _ _, Below.refl _ _⟩
  · refine (clone_at a n c xs w hx hbig hc).mono fun e w' ⟨v', he, hown, hb⟩ => ?_
    obtain ⟨q, c', rfl, hc', hg⟩ := own_form hown
    exact ⟨q, c', he, hc', hg, hown, hb⟩

/-- A byte written at a place of the list, if it is one. -/
def poke (xs : List Int) (i b : Int) : List Int := if 0 ≤ i ∧ i < xs.length then xs.set i.toNat b else xs
theorem poke_length (xs : List Int) (i b : Int) : (poke xs i b).length = xs.length := by unfold poke; split <;> simp

theorem poke_in (xs : List Int) (k : Nat) (b : Int) (h : k < xs.length) : poke xs (k : Int) b = xs.set k b := by
  unfold poke
  rw [if_pos ⟨by omega, by omega⟩]
  rfl
theorem poke_out (xs : List Int) (i b : Int) (h : i < 0 ∨ (xs.length : Int) ≤ i) : poke xs i b = xs := by
  unfold poke
  rw [if_neg (by omega)]
theorem stored_row {w : World} {B n g c : Nat} {xs : List Int} (h : w.ownsRow B 5 1 (.slice (some ⟨g, 0, none⟩) n c) n (xs.map (Value.int .u8))) (k : Nat) (b : Int) :
    (w.setCell ⟨g, k, none⟩ (.int .u8 b)).ownsRow B 5 1 (.slice (some ⟨g, 0, none⟩) n c) n ((xs.set k b).map (Value.int .u8)) := by
  have := (h.stored k (.int .u8 b)).1
  rwa [← List.map_set] at this

set_option maxHeartbeats 2000000 in
theorem poked_any {p : Option Addr} {n c : Nat} {xs : List Int} {w : World} (h : Src w p n c xs) (hbig : n ≤ 140737488351232) (i b : Int) :
    Calls Try.prog 18 #[.slice p n c, .int .i64 i, .int .u8 b] w fun e w' => e = .returned (.string (strOfNums (poke xs i b))) ∧ Below w.heap.size w w' := by
  have con := clone_any h hbig
  have hx := h.length
  clear h
  by_cases hin : 0 ≤ i ∧ i < n
  · obtain ⟨k, rfl⟩ : ∃ k : Nat, i = (k : Int) := ⟨i.toNat, by omega⟩
    have hk : k < n := by omega
    rw [poke_in xs k b (by omega)]
    have X := Lib.hid hx
    clear hx hin
    go_enter Try.func18, Try.ntmps18
    go_wp2_with fail
    refine con.mono ?_
    rintro e w1 ⟨q, c', rfl, hc', hg, hown, hb⟩
    obtain ⟨g, rfl, hge⟩ := hg (by omega)
    have hf := hown.frozenAt k
    have hcell : w1.cell? ⟨g, k, none⟩ = some (.int .u8 (xs.getD k 0)) := by
      rw [hown.cellAt k (by omega)]
      simp [List.getD, List.getElem?_eq_getElem (show k < xs.length by have := X.out; omega)]
    have cv := conv (own_bytes (stored_row hown k b)) (by rw [List.length_set]; exact X.out) c'
    have fin : Below w.heap.size w (w1.setCell ⟨g, k, none⟩ (.int .u8 b)) := hb.setCell (p := ⟨g, k, none⟩) hge _
    clear hown hb con
    go_wp2
    go_ret
    exact ⟨rfl, fin⟩
  · rw [poke_out xs i b (by omega)]
    have X := Lib.hid hx
    clear hx
    by_cases h0 : 0 ≤ i
    · have h1 : (n : Int) ≤ i := by omega
      clear hin
      go_enter Try.func18, Try.ntmps18
      go_wp2_with fail
      refine con.mono ?_
      rintro e w1 ⟨q, c', rfl, hc', hg, hown, hb⟩
      have cv := conv (own_bytes hown) X.out c'
      clear hown con hg
      go_wp2
      go_ret
      exact ⟨rfl, hb⟩
    · have h1 : i < 0 := by omega
      clear hin h0
      go_enter Try.func18, Try.ntmps18
      go_wp2_with fail
      refine con.mono ?_
      rintro e w1 ⟨q, c', rfl, hc', hg, hown, hb⟩
      have cv := conv (own_bytes hown) X.out c'
      clear hown con hg
      go_wp2
      go_ret
      exact ⟨rfl, hb⟩

/-- 'append([]byte(nil), s...)'. -/
theorem wpList_append_src {w : World} {ops : Array Oper} {rest : List Oper} {o : Oper} {a : Act} {Q : Exit → Act → World → Prop} (hgd : o.guard = none) (s x : Operand)
    (ho : o.op = .call { callee := .builtin .append, args := #[s, x], argTypes := #[25, 25] }) {p : Option Addr} {n c : Nat} {xs : List Int} (h : Src w p n c xs) (hbig : n ≤ 140737488351232)
    (hs : a.eval s = .slice none 0 0) (hx : a.eval x = .slice p n c)
    (hk : ∀ q c' w', n ≤ c' → (0 < n → ∃ g, q = some ⟨g, 0, none⟩ ∧ w.heap.size ≤ g) → w'.ownsRow w.heap.size 5 1 (.slice q n c') n (xs.map (Value.int .u8)) → Below w.heap.size w w' → wpList Try.prog ops Q rest (a.put o.dst (.slice q n c')) w') :
    wpList Try.prog ops Q (o :: rest) a w := by
  obtain ⟨i0, hi, hz0, hz1, hz2⟩ := info_parts info5
  rcases h with ⟨rfl, rfl, rfl, rfl⟩ | ⟨ad, rfl, hl, hc⟩
  · refine wpList_append_own_none hgd s x 25 ho w.heap.size 5 i0 1 Try.underlying25 hi _ 0 [] hs (World.ownsRow_nil _ _ _ _) hx ?_
    exact hk none 0 w (Nat.le_refl _) (fun h => absurd h (Nat.lt_irrefl 0)) (World.ownsRow_nil _ _ _ _) (Below.refl _ _)
  · refine wpList_append_own w hgd s x 25 ho w.heap.size 5 i0 (.int .u8 0) 1 1 Try.underlying25 hi hz0 hz1 hz2 rfl (by decide) _ 0 [] hs (World.ownsRow_nil _ _ _ _) ad n c (xs.map (Value.int .u8)) hx (by simp; omega) ?_ ?_ (by unfold maxLen; omega) (by omega) (Nat.le_refl _) ?_
    · intro j u hj
      have hjn : j < n := by
        have := (List.getElem?_eq_some_iff.1 hj).1
        simp at this
        omega
      rw [hc j hjn]
      have e : (xs.map (Value.int .u8))[j]? = some (Value.int .u8 (xs.getD j 0)) := by simp [List.getD, List.getElem?_eq_getElem (show j < xs.length by omega)]
      rw [e] at hj
      exact hj
    · intro u hu; obtain ⟨x, _, rfl⟩ := List.mem_map.1 hu; rfl
    · intro v' w1 hown hgrow _
      rw [Nat.zero_add, List.nil_append] at hown
      have hb : Below w.heap.size w w1 := (Below.refl _ w).grown hgrow (Nat.le_refl _) (fun k hk => by cases hk)
      obtain ⟨q, c', rfl, hc', hg⟩ := own_form hown
      exact hk q c' w1 hc' hg hown hb

/-- impl.poke writes the byte. -/
def PokePost (B : Nat) (q : Option Addr) (n c : Nat) (xs : List Int) (i b : Int) (w : World) (e : Ending) (w' : World) : Prop :=
  (∃ v, e = .returned v) ∧ w'.ownsRow B 5 1 (.slice q n c) n ((poke xs i b).map (Value.int .u8)) ∧ Below B w w'
set_option maxHeartbeats 2000000 in
theorem poke_call {B : Nat} {q : Option Addr} {n c : Nat} {xs : List Int} {w : World} (i b : Int) (hg : 0 < n → ∃ g, q = some ⟨g, 0, none⟩ ∧ B ≤ g) (hnc : n ≤ c) (hbig : n ≤ 140737488351232) (hown : w.ownsRow B 5 1 (.slice q n c) n (xs.map (Value.int .u8))) :
    Calls Try.prog 27 #[.slice q n c, .int .i64 i, .int .u8 b] w (PokePost B q n c xs i b w) := by
  have hx : xs.length = n := by have := hown.1; simpa using this
  by_cases hin : 0 ≤ i ∧ i < n
  · obtain ⟨k, rfl⟩ : ∃ k : Nat, i = (k : Int) := ⟨i.toNat, by omega⟩
    have hk : k < n := by omega
    obtain ⟨g, rfl, hge⟩ := hg (by omega)
    have hf := hown.frozenAt k
    have hcell : w.cell? ⟨g, k, none⟩ = some (.int .u8 (xs.getD k 0)) := by
      rw [hown.cellAt k (by omega)]
      simp [List.getD, List.getElem?_eq_getElem (show k < xs.length by omega)]
    have fin : Below B w (w.setCell ⟨g, k, none⟩ (.int .u8 b)) := (Below.refl _ w).setCell (p := ⟨g, k, none⟩) hge _
    have fin2 := stored_row hown k b
    have X := Lib.hid (poke_in xs k b (by omega))
    clear hown hx hin
    go_enter Try.func27, Try.ntmps27
    go_wp2
    go_end0
    exact ⟨⟨_, rfl⟩, by rw [X.out]; exact fin2, fin⟩
  · have X := Lib.hid (poke_out xs i b (by omega))
    have fin2 := Lib.hid hown
    clear hown hx hg
    by_cases h0 : 0 ≤ i
    · have h1 : (n : Int) ≤ i := by omega
      clear hin
      go_enter Try.func27, Try.ntmps27
      go_wp2
      go_end0
      exact ⟨⟨_, rfl⟩, by rw [X.out]; exact fin2.out, Below.refl _ _⟩
    · have h1 : i < 0 := by omega
      clear hin h0
      go_enter Try.func27, Try.ntmps27
      go_wp2
      go_end0
      exact ⟨⟨_, rfl⟩, by rw [X.out]; exact fin2.out, Below.refl _ _⟩

/-- The bytes that are left of the poked copy. -/
theorem left_pre (xs ys : List Int) (i b : Int) : strOfNums (((poke xs i b).drop (preK xs ys)).take (xs.length - preK xs ys)) = (strOfNums (poke xs i b)).extract (preK xs ys) xs.length := by
  apply ByteArray.ext
  apply Array.toList_inj.1
  rw [Lib.extract_data, strOfNums_data, strOfNums_data, List.map_take, List.map_drop]
theorem left_suf (xs ys : List Int) (i b : Int) : strOfNums (((poke xs i b).drop 0).take (xs.length - sufK xs ys)) = (strOfNums (poke xs i b)).extract 0 (xs.length - sufK xs ys) := by
  apply ByteArray.ext
  apply Array.toList_inj.1
  rw [Lib.extract_data, strOfNums_data, strOfNums_data, List.map_take, List.map_drop, Nat.sub_zero]

set_option maxHeartbeats 2000000 in
theorem implPokePrefix {p1 p2 : Option Addr} {n c m d : Nat} {xs ys : List Int} {w : World} (h1 : Src w p1 n c xs) (h2 : Src w p2 m d ys) (hbig : n ≤ 140737488351232) (i b : Int) :
    Calls Try.prog 19 #[.slice p1 n c, .slice p2 m d, .int .i64 i, .int .u8 b] w fun e w' => e = .returned (.string ((strOfNums (poke xs i b)).extract (preK xs ys) n)) ∧ Below w.heap.size w w' := by
  have hx := h1.length
  have hy := h2.length
  have hb2 := h2.bytes
  have hle := preK_le xs ys
  have fin := left_pre xs ys i b
  rw [hx] at fin hle
  rw [← fin]
  have X := Lib.hid hx
  have Y := Lib.hid hy
  have B2 := Lib.hid hb2
  clear fin hx hy hb2 h2
  go_enter Try.func19, Try.ntmps19
  go_wp2_with (at_builtin; refine wpList_append_src rfl _ _ rfl h1 hbig rfl rfl ?_)
  intro q c' w1 hc' hg hown hb
  go_wp2_with fail
  refine (bytesCutPrefix q p2 n c' m d xs ys w1 X.out Y.out hc' (own_bytes hown) (below_bytes hb B2.out)).mono ?_
  rintro e w2 ⟨p', cc, rfl, hsub, rfl⟩
  go_wp2_with fail
  refine (poke_call i b hg hc' hbig hown).mono ?_
  rintro e w2 ⟨⟨v, rfl⟩, hown2, hb2⟩
  have cv := conv (hsub.bytes (own_bytes hown2) (by omega)) (by rw [List.length_take, List.length_drop, poke_length, X.out]; omega) cc
  clear hown hown2 h1
  go_wp2
  go_ret
  exact ⟨rfl, hb.trans hb2⟩

set_option maxHeartbeats 2000000 in
theorem implPokeSuffix {p1 p2 : Option Addr} {n c m d : Nat} {xs ys : List Int} {w : World} (h1 : Src w p1 n c xs) (h2 : Src w p2 m d ys) (hbig : n ≤ 140737488351232) (i b : Int) :
    Calls Try.prog 20 #[.slice p1 n c, .slice p2 m d, .int .i64 i, .int .u8 b] w fun e w' => e = .returned (.string ((strOfNums (poke xs i b)).extract 0 (n - sufK xs ys))) ∧ Below w.heap.size w w' := by
  have hx := h1.length
  have hy := h2.length
  have hb2 := h2.bytes
  have hle := sufK_le xs ys
  have fin := left_suf xs ys i b
  rw [hx] at fin hle
  rw [← fin]
  have X := Lib.hid hx
  have Y := Lib.hid hy
  have B2 := Lib.hid hb2
  clear fin hx hy hb2 h2
  go_enter Try.func20, Try.ntmps20
  go_wp2_with (at_builtin; refine wpList_append_src rfl _ _ rfl h1 hbig rfl rfl ?_)
  intro q c' w1 hc' hg hown hb
  go_wp2_with fail
  refine (bytesCutSuffix q p2 n c' m d xs ys w1 X.out Y.out hc' (by omega) (own_bytes hown) (below_bytes hb B2.out)).mono ?_
  rintro e w2 ⟨p', cc, rfl, hsub, rfl⟩
  go_wp2_with fail
  refine (poke_call i b hg hc' hbig hown).mono ?_
  rintro e w2 ⟨⟨v, rfl⟩, hown2, hb2⟩
  have cv := conv (hsub.bytes (own_bytes hown2) (by omega)) (by rw [List.length_take, List.length_drop, poke_length, X.out]; omega) cc
  clear hown hown2 h1
  go_wp2
  go_ret
  exact ⟨rfl, hb.trans hb2⟩

end Go.Proofs.Ytenamlnlpbogcaa.pokes
