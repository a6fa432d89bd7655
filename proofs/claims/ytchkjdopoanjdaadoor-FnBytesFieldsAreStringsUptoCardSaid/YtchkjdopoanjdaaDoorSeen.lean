/-
  Contracts of impl.seen and impl.seenBytes: of an iterator that keeps its contract they return the first pieces that it yields, as many as one asks for.
-/
import Derived.Test.YtchkjdopoanjdaaDoorRange
import Derived.Test.YtchkjdopoanjdaaDoorRow
namespace Go.Proofs.YtchkjdopoanjdaaDoor.iters
open Go.RowKit Go.Shelf
set_option linter.unusedVariables false
attribute [local go_sem] Oper.semAt_some

theorem SeqB.later {α : Type} {F : Fence} {n : Nat} {P : Program} {g : Nat} {lb : Array Value} {encs : α → Array Value} {n0 Bs N : Nat} {S Sp : List α → Prop} {w w' : World} (h : SeqB F n P g lb encs n0 Bs S Sp N w) (hb : Below n0 w w') : SeqB F n P g lb encs n0 Bs S Sp N w' :=
  fun l J Jx W hW => h l J Jx W (hb.trans hW)

theorem seenL_stop {α : Type} {xs pre : List α} {most : Int} (hp : pre <+: xs) (h1 : 1 ≤ pre.length) (hm : (pre.length : Int) = most) : seenL xs most = pre := by
  have hl := hp.length_le
  have e : pre = xs.take pre.length := (List.prefix_iff_eq_take.1 hp)
  unfold seenL
  by_cases h : most < xs.length
  · rw [if_pos ⟨by omega, h⟩, ← hm]
    exact e.symm
  · rw [if_neg (by omega)]
    have : pre.length = xs.length := by omega
    rw [this, List.take_length] at e
    exact e.symm
theorem seenL_done {α : Type} {xs : List α} {most : Int} (h : ∀ k : Nat, 1 ≤ k → k ≤ xs.length → (k : Int) ≠ most) : seenL xs most = xs := by
  unfold seenL
  rw [if_neg]
  intro ⟨h1, h2⟩
  exact h most.toNat (by omega) (by omega) (by omega)
theorem not_yet {α : Type} {pre : List α} {x : α} {most : Int} (h : ∀ k : Nat, 1 ≤ k → k ≤ pre.length → (k : Int) ≠ most) (hne : ((pre.length : Int) + 1 == most) = false) : ∀ k : Nat, 1 ≤ k → k ≤ (pre ++ [x]).length → (k : Int) ≠ most := by
  intro k h1 hk he
  have hne' : (pre.length : Int) + 1 ≠ most := by simpa using hne
  rw [List.length_append] at hk
  simp at hk
  by_cases e : k = pre.length + 1
  · subst e; omega
  · exact h k h1 (by omega) he

/-- What 'seen' holds between two rounds. -/
def Held {α : Type} (f : α → ByteArray) (w : World) (nI : Nat) (pre : List α) (W : World) : Prop :=
  (∃ v, Boxed W (w.heap.size + 1) 25 v ∧ W.ownsRow w.heap.size 9 1 v pre.length (pre.map fun x => Value.string (f x))) ∧ Below nI w W
def Going {α : Type} (f : α → ByteArray) (w : World) (nI : Nat) (most : Int) (pre : List α) (W : World) : Prop :=
  Held f w nI pre W ∧ Boxed W w.heap.size 3 (.int .i64 most) ∧ ∀ k : Nat, 1 ≤ k → k ≤ pre.length → (k : Int) ≠ most
def Broke {α : Type} (f : α → ByteArray) (w : World) (nI : Nat) (most : Int) (c : Code) (pre : List α) (W : World) : Prop :=
  c = .exit 0 ∧ Held f w nI pre W ∧ 1 ≤ pre.length ∧ (pre.length : Int) = most

theorem held_own {α : Type} (f : α → ByteArray) (w : World) (nI B : Nat) (h1 : nI ≤ w.heap.size) (h2 : nI ≤ B) : OwnFrom B (Held f w nI) := by
  refine OwnFrom.and (Own.from ?_ _) (ownFrom_below h1 h2)
  have := holdsRow_own (β := List α) w.heap.size (w.heap.size + 1) 25 9 1 (fun pre => pre.length) (fun pre => pre.map fun x => Value.string (f x)) (fun _ _ => True)
  intro s A B row ⟨v, hv, hr⟩ hg hrow
  obtain ⟨v', hv', hr', _⟩ := this s A B row ⟨v, hv, hr, trivial⟩ hg hrow
  exact ⟨v', hv', hr'⟩
theorem box_own {β : Type} (B B' : Nat) (t : TypeId) (v : Value) : OwnFrom B (fun (_ : β) W => Boxed W B' t v) := by
  intro s A C row hv hg hrow
  refine hv.kept hg (fun e => ?_)
  obtain ⟨_, o, ho, hc⟩ := hrow B' e.symm
  rw [show A.heap[B']? = _ from hv] at ho
  cases ho
  cases hc
theorem going_own {α : Type} (f : α → ByteArray) (w : World) (nI B : Nat) (most : Int) (h1 : nI ≤ w.heap.size) (h2 : nI ≤ B) : OwnFrom B (Going f w nI most) :=
  fun s A C row ⟨hh, hb, hk⟩ hg hrow => ⟨held_own f w nI B h1 h2 s A C row hh hg hrow, box_own B w.heap.size 3 _ s A C row hb hg hrow, hk⟩
theorem broke_own {α : Type} (f : α → ByteArray) (w : World) (nI B : Nat) (most : Int) (c : Code) (h1 : nI ≤ w.heap.size) (h2 : nI ≤ B) : OwnFrom B (Broke f w nI most c) :=
  fun s A C row ⟨hc, hh, hl⟩ hg hrow => ⟨hc, held_own f w nI B h1 h2 s A C row hh hg hrow, hl⟩

theorem held_abides {α : Type} (f : α → ByteArray) (w : World) (nI Bs : Nat) (h1 : nI ≤ Bs) (h2 : Bs < w.heap.size) : Abides Bs (Held f w nI) := by
  intro s A C ⟨⟨v, hv, hr⟩, hb⟩ hg
  refine ⟨⟨v, hv.kept hg (fun e => by simp at e; omega), hr.kept hg ?_⟩, hb.grown hg (by have := hb.size; omega) (fun k e => by cases e; exact h1)⟩
  rcases hr.2 with ⟨rfl, _⟩ | ⟨g, cap, cur, rfl, hge, _⟩
  · exact .inl rfl
  · exact .inr (fun e => by simp [Value.ownBlock] at e; omega)
theorem going_abides {α : Type} (f : α → ByteArray) (w : World) (nI Bs : Nat) (most : Int) (h1 : nI ≤ Bs) (h2 : Bs < w.heap.size) : Abides Bs (Going f w nI most) :=
  fun s A C ⟨hh, hb, hk⟩ hg => ⟨held_abides f w nI Bs h1 h2 s A C hh hg, hb.kept hg (fun e => by simp at e; omega), hk⟩
theorem broke_abides {α : Type} (f : α → ByteArray) (w : World) (nI Bs : Nat) (most : Int) (c : Code) (h1 : nI ≤ Bs) (h2 : Bs < w.heap.size) : Abides Bs (Broke f w nI most c) :=
  fun s A C ⟨hc, hh, hl⟩ hg => ⟨hc, held_abides f w nI Bs h1 h2 s A C hh hg, hl⟩

set_option maxRecDepth 100000 in
set_option maxHeartbeats 4000000 in
theorem seen_any (gf : Nat) (lb : Array Value) (eg : ∀ args w, (callFunc gf args).run Tryd.prog w = .ok (.enter gf args) w) (most : Int) (xs : List ByteArray) (w : World) (n0 Bs nI : Nat)
    (hseq : SeqB Fence.wide 2 Tryd.prog gf lb (fun x : ByteArray => #[.string x]) n0 Bs (fun ys => ys = xs) (fun pre => pre <+: xs) xs.length w)
    (hn0 : n0 ≤ w.heap.size) (hBs : Bs < n0) (hnI : nI ≤ Bs) (hlen : xs.length ≤ 8388608) :
    Calls Tryd.prog 34 #[.func (.func gf) #[] lb, .int .i64 most] w fun e w' => ∃ v, e = .returned v ∧ StrRow w' w.heap.size v (seenL xs most) ∧ Below nI w w' := by
  refine (callsIn_wide (n := 3)).1 ?_
  obtain ⟨i0, hi, hz0, hz1, hz2⟩ := info_parts infoS
  refine callsIn_of_wp_marks Tryd.func34 rfl trivial ?_ rfl
  simp only [Tryd.ntmps34, List.size_toArray, List.length_cons, List.length_nil, Nat.reduceAdd, Nat.reduceSub, Array.replicate_succ, Array.replicate_zero, List.push_toArray, List.append_toArray, List.nil_append, List.cons_append]
  have bM := Boxed.new w 3 (.int .i64 most)
  have bO := Boxed.new (w.alloc (.cells #[.int .i64 most] 3)) 25 (.slice none 0 0)
  rw [World.size_alloc] at bO
  have hB0 : ∀ k, k ≤ w.heap.size → Below k w ((w.alloc (.cells #[.int .i64 most] 3)).alloc (.cells #[.slice none 0 0] 25)) := fun k hk => ((Below.refl _ w).alloc hk _).alloc (by simp; omega) _
  gi_wp2
  refine range_law rfl (by decide) (gf := gf) (lb := lb) rfl trivial eg (hseq.later (hB0 n0 hn0)) (by simp; omega) hBs (fun _ => rfl)
    (Going id w nI most) (Broke id w nI most) (going_own id w nI _ most (by omega) (by simp; omega)) (fun c => broke_own id w nI _ most c (by omega) (by simp; omega)) (going_abides id w nI Bs most hnI (by omega)) (fun c => broke_abides id w nI Bs most c hnI (by omega))
    ⟨⟨⟨_, bO, World.ownsRow_nil _ _ _ _⟩, hB0 nI (by omega)⟩, bM.alloc _, fun k h1 hk => by simp at hk; omega⟩
    (fun x => { tmps := #[.func (.func gf) #[] lb, .int .i64 most, undef, .pointer (some ⟨w.heap.size, 0, none⟩), .slice none 0 0, .pointer (some ⟨w.heap.size + 1, 0, none⟩), .string x, .func (.func gf) #[] lb, .string x, undef, undef, undef, undef, undef, undef, undef, undef, undef], defers := [] }) ?assign ?body ?done ?stop
  case assign =>
    intro l x W K hK
    gi_wp2
    exact hK
  case body =>
    rintro l pre x W ⟨⟨⟨v, hv, hrow⟩, hB⟩, hM, hno⟩ hlt hpre
    have hc := hv.cell
    have hBs' := hB.size
    have hN := Lib.hid hno
    have hP := Lib.hid hpre
    have hS := Lib.hid hseq
    clear hno hpre hseq
    cases htest : ((pre.length : Int) + 1 == most)
    all_goals
      gi_wp2_with (gi_at_builtin; refine wpListIn_append_own _ rfl _ _ 25 rfl w.heap.size 9 i0 (.string ⟨#[]⟩) 1 16 Tryd.underlying25 hi hz0 hz1 hz2 rfl (by decide) _ _ _ rfl (hrow.alloc _) ⟨W.heap.size, 0, none⟩ 1 1 [.string x] rfl rfl (cell_one_new _ _ _) (by simp [Value.oneCell']) (by unfold maxLen; omega) (by omega) (by simp; omega) ?_; intro v' w1 hown' hgrow _; obtain ⟨g', cap', rfl⟩ := ownsRow_succ hown'; obtain ⟨hv1, hv2, hr2, hk2, hb2⟩ := hv.appended (by decide) hrow hBs' (Nat.le_succ _) hown' hgrow; have hm2 := ((hM.alloc _).kept hgrow (hM.not_row (by decide) hrow)).kept (grownBy_setCell' w1 (w.heap.size + 1) (.slice (some ⟨g', 0, none⟩) (pre.length + 1) cap')) (by simp); have hc1 := hv1.cell; have hf1 := hv1.frozen; have hc2 := hv2.cell; have hc3 := hm2.cell)
      have fin : Held id w nI (pre ++ [x]) (w1.setCell ⟨w.heap.size + 1, 0, none⟩ (.slice (some ⟨g', 0, none⟩) (pre.length + 1) cap')) := ⟨⟨_, hv2, by simpa using hr2⟩, hB.trans (hb2.mono (by omega))⟩
    · exact ⟨hk2.from _, hb2.mono hn0, fin, hm2, not_yet hN.out htest⟩
    · exact ⟨hk2.from _, rfl, fin, by simp, by simpa using htest⟩
  case done =>
    rintro D ys W hD rfl ⟨⟨⟨v, hv, hrow⟩, hB⟩, hM, hno⟩ hK
    have hc := hv.cell
    have hN := Lib.hid (seenL_done hno)
    clear hno hseq
    gi_wp2
    refine ⟨by simp, .inl ⟨_, _, rfl, run_takeDeferred hK, ?_⟩⟩
    exact ⟨_, results_tmp rfl _ _ _, v, rfl, by rw [hN.out]; exact ownsRow_putObj hrow _ hK rfl, hB.trans (belowK_b (w := w) (by omega) W D _ _ (by simp at hD; omega) hK rfl rfl)⟩
  case stop =>
    rintro D c pre W hD hSp ⟨rfl, ⟨⟨v, hv, hrow⟩, hB⟩, hl, hm⟩ hK
    have hc := hv.cell
    have hN := Lib.hid (seenL_stop hSp hl hm)
    clear hSp hm hseq
    gi_wp2
    refine ⟨by simp, .inl ⟨_, _, rfl, run_takeDeferred hK, ?_⟩⟩
    exact ⟨_, results_tmp rfl _ _ _, v, rfl, by rw [hN.out]; exact ownsRow_putObj hrow _ hK rfl, hB.trans (belowK_b (w := w) (by omega) W D _ _ (by simp at hD; omega) hK rfl rfl)⟩
/-- A []byte that an iterator yields: address, length, capacity. -/
abbrev Part : Type := Option Addr × Nat × Nat
abbrev Part.val (x : Part) : Value := .slice x.1 x.2.1 x.2.2
theorem mem_of {α : Type} {pre xs : List α} {x : α} (h : pre ++ [x] = xs ∨ pre ++ [x] <+: xs) : x ∈ xs := by
  rcases h with rfl | h
  · simp
  · exact h.subset (by simp)
theorem seenL_map {α β : Type} (f : α → β) (xs : List α) (most : Int) : seenL (xs.map f) most = (seenL xs most).map f := by
  unfold seenL
  rw [List.length_map]
  split <;> simp [List.map_take]
theorem seenL_map_done {α β : Type} (f : α → β) {xs : List α} {most : Int} (h : ∀ k : Nat, 1 ≤ k → k ≤ xs.length → (k : Int) ≠ most) : seenL (xs.map f) most = xs.map f := by
  rw [seenL_map, seenL_done h]
theorem seenL_map_stop {α β : Type} (f : α → β) {xs pre : List α} {most : Int} (hp : pre <+: xs) (h1 : 1 ≤ pre.length) (hm : (pre.length : Int) = most) : seenL (xs.map f) most = pre.map f := by
  rw [seenL_map, seenL_stop hp h1 hm]

set_option maxRecDepth 100000 in
set_option maxHeartbeats 4000000 in
theorem seenBytes_any (gf : Nat) (lb : Array Value) (eg : ∀ args w, (callFunc gf args).run Tryd.prog w = .ok (.enter gf args) w) (most : Int) (xs : List Part) (str : Part → ByteArray) (w : World) (n0 Bs nI : Nat)
    (hseq : SeqB Fence.wide 2 Tryd.prog gf lb (fun x : Part => #[x.val]) n0 Bs (fun ys => ys = xs) (fun pre => pre <+: xs) xs.length w)
    (hn0 : n0 ≤ w.heap.size) (hBs : Bs < n0) (hnI : nI ≤ Bs) (hlen : xs.length ≤ 8388608) (hconv : ∀ x ∈ xs, ∀ W, Below nI w W → (convert 33 9 x.val).run Tryd.prog W = .ok (.string (str x)) W) :
    Calls Tryd.prog 44 #[.func (.func gf) #[] lb, .int .i64 most] w fun e w' => ∃ v, e = .returned v ∧ StrRow w' w.heap.size v (seenL (xs.map str) most) ∧ Below nI w w' := by
  refine (callsIn_wide (n := 3)).1 ?_
  obtain ⟨i0, hi, hz0, hz1, hz2⟩ := info_parts infoS
  refine callsIn_of_wp_marks Tryd.func44 rfl trivial ?_ rfl
  simp only [Tryd.ntmps44, List.size_toArray, List.length_cons, List.length_nil, Nat.reduceAdd, Nat.reduceSub, Array.replicate_succ, Array.replicate_zero, List.push_toArray, List.append_toArray, List.nil_append, List.cons_append]
  have bM := Boxed.new w 3 (.int .i64 most)
  have bO := Boxed.new (w.alloc (.cells #[.int .i64 most] 3)) 25 (.slice none 0 0)
  rw [World.size_alloc] at bO
  have hB0 : ∀ k, k ≤ w.heap.size → Below k w ((w.alloc (.cells #[.int .i64 most] 3)).alloc (.cells #[.slice none 0 0] 25)) := fun k hk => ((Below.refl _ w).alloc hk _).alloc (by simp; omega) _
  gi_wp2
  refine range_law rfl (by decide) (gf := gf) (lb := lb) rfl trivial eg (hseq.later (hB0 n0 hn0)) (by simp; omega) hBs (fun _ => rfl)
    (Going str w nI most) (Broke str w nI most) (going_own str w nI _ most (by omega) (by simp; omega)) (fun c => broke_own str w nI _ most c (by omega) (by simp; omega)) (going_abides str w nI Bs most hnI (by omega)) (fun c => broke_abides str w nI Bs most c hnI (by omega))
    ⟨⟨⟨_, bO, World.ownsRow_nil _ _ _ _⟩, hB0 nI (by omega)⟩, bM.alloc _, fun k h1 hk => by simp at hk; omega⟩
    (fun x => { tmps := #[.func (.func gf) #[] lb, .int .i64 most, undef, .pointer (some ⟨w.heap.size, 0, none⟩), .slice none 0 0, .pointer (some ⟨w.heap.size + 1, 0, none⟩), .slice x.1 x.2.1 x.2.2, .func (.func gf) #[] lb, .slice x.1 x.2.1 x.2.2, undef, undef, undef, undef, undef, undef, undef, undef, undef, undef], defers := [] }) ?assign ?body ?done ?stop
  case assign =>
    intro l x W K hK
    gi_wp2
    exact hK
  case body =>
    rintro l pre x W ⟨⟨⟨v, hv, hrow⟩, hB⟩, hM, hno⟩ hlt hpre
    have hc := hv.cell
    have hBs' := hB.size
    have hN := Lib.hid hno
    have cv := hconv x (mem_of hpre) W hB
    obtain ⟨xp, xl, xc⟩ := x
    have hF := Lib.hid hconv
    clear hno hpre hseq hconv
    simp only [Part.val] at cv
    cases htest : ((pre.length : Int) + 1 == most)
    all_goals
      gi_wp2_with (gi_at_builtin; refine wpListIn_append_own _ rfl _ _ 25 rfl w.heap.size 9 i0 (.string ⟨#[]⟩) 1 16 Tryd.underlying25 hi hz0 hz1 hz2 rfl (by decide) _ _ _ rfl (hrow.alloc _) ⟨W.heap.size, 0, none⟩ 1 1 [.string (str (xp, xl, xc))] rfl rfl (cell_one_new _ _ _) (by simp [Value.oneCell']) (by unfold maxLen; omega) (by omega) (by simp; omega) ?_; intro v' w1 hown' hgrow _; obtain ⟨g', cap', rfl⟩ := ownsRow_succ hown'; obtain ⟨hv1, hv2, hr2, hk2, hb2⟩ := hv.appended (by decide) hrow hBs' (Nat.le_succ _) hown' hgrow; have hm2 := ((hM.alloc _).kept hgrow (hM.not_row (by decide) hrow)).kept (grownBy_setCell' w1 (w.heap.size + 1) (.slice (some ⟨g', 0, none⟩) (pre.length + 1) cap')) (by simp); have hc1 := hv1.cell; have hf1 := hv1.frozen; have hc2 := hv2.cell; have hc3 := hm2.cell)
      have fin : Held str w nI (pre ++ [(xp, xl, xc)]) (w1.setCell ⟨w.heap.size + 1, 0, none⟩ (.slice (some ⟨g', 0, none⟩) (pre.length + 1) cap')) := ⟨⟨_, hv2, by simpa using hr2⟩, hB.trans (hb2.mono (by omega))⟩
    · exact ⟨hk2.from _, hb2.mono hn0, fin, hm2, not_yet hN.out htest⟩
    · exact ⟨hk2.from _, rfl, fin, by simp, by simpa using htest⟩
  case done =>
    rintro D ys W hD rfl ⟨⟨⟨v, hv, hrow⟩, hB⟩, hM, hno⟩ hK
    have hc := hv.cell
    have hN := Lib.hid (seenL_map_done str hno)
    clear hno hseq hconv
    gi_wp2
    refine ⟨by simp, .inl ⟨_, _, rfl, run_takeDeferred hK, ?_⟩⟩
    exact ⟨_, results_tmp rfl _ _ _, v, rfl, by rw [hN.out]; unfold StrRow; rw [List.length_map, List.map_map]; exact ownsRow_putObj hrow _ hK rfl, hB.trans (belowK_b (w := w) (by omega) W D _ _ (by simp at hD; omega) hK rfl rfl)⟩
  case stop =>
    rintro D c pre W hD hSp ⟨rfl, ⟨⟨v, hv, hrow⟩, hB⟩, hl, hm⟩ hK
    have hc := hv.cell
    have hN := Lib.hid (seenL_map_stop str hSp hl hm)
    clear hSp hm hseq hconv
    gi_wp2
    refine ⟨by simp, .inl ⟨_, _, rfl, run_takeDeferred hK, ?_⟩⟩
    exact ⟨_, results_tmp rfl _ _ _, v, rfl, by rw [hN.out]; unfold StrRow; rw [List.length_map, List.map_map]; exact ownsRow_putObj hrow _ hK rfl, hB.trans (belowK_b (w := w) (by omega) W D _ _ (by simp at hD; omega) hK rfl rfl)⟩
end Go.Proofs.YtchkjdopoanjdaaDoor.iters
