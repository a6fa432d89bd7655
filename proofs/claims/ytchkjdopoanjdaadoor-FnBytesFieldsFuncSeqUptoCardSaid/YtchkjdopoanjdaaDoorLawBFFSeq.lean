/-
  laws.FnBytesFieldsFuncSeq returns true
-/
import Derived.Test.YtchkjdopoanjdaaDoorRows
import Derived.Test.YtchkjdopoanjdaaDoorCards
import Derived.Test.YtchkjdopoanjdaaDoorTie
import Derived.Test.YtchkjdopoanjdaaDoorCard
import Derived.Test.YtchkjdopoanjdaaDoorWalkBFFSeq
import Derived.Test.YtchkjdopoanjdaaDoorBase
import Derived.ProofKit
import Derived.OpenShut
import Derived.ShutString
import Derived.ChangeOld
import Derived.Below
import Derived.SizedLaws
import Derived.JoinedCond
import Derived.Lib.SmallJoins
namespace Go.Proofs.YtchkjdopoanjdaaDoor.fnBytesFieldsFuncSeq
open Go.ChangeShapes Go.WideShapes Go.ChangeAt Go.RowKit Go.Joins
open Go.ChangeMaps (open_string shut_string)
open Go.Proofs.YtchkjdopoanjdaaDoor.base
set_option linter.unusedVariables false

set_option maxRecDepth 100000 in
theorem contract (H : Type) (enc : TypeId × Value → H) (W : World) (base : Nat) (args : Array Value) (ds gs : List (DataW H)) (before : List MemPlace)
    (hval : ∀ (j : Nat) t v, Tryd.f7.params[j]? = some t → args[j]? = some v → Value.okWide Tryd.prog W .any base t v)
    (hW : DataW.Whole enc Tryd.prog Tryd.f7.params.toList Rows.fnBytesFieldsFuncSeqSpec.vars false W args.toList ds gs before) (hk : Rows.uptoSmall H (ds ++ gs) = true) (hL : laidMetH Tryd.prog Rows.fnBytesFieldsFuncSeqUptoRow.laid W) :
    Calls Tryd.prog 7 args W fun e W' => ∃ v, e = .returned v ∧ Rows.fnBytesFieldsFuncSeqSpec.post enc Tryd.prog Tryd.f7 false true false false W args v W' := by
  have hW' := hW
  obtain ⟨p, q, hA0, hV, rfl, hfz, hnd⟩ := hW
  have hA : DataW.TrodAll enc Tryd.prog W 0 (fun _ => true) true Tryd.f7.params.toList args.toList ds p := hA0
  rw [Tryd.params7] at hA hval
  obtain ⟨v0, vs0, d0, ds0, p0, q0, hargs, rfl, rfl, h0, r0⟩ := trodAll_cons hA
  obtain ⟨v1, vs1, d1, ds1, p1, q1, rfl, rfl, rfl, h1, r1⟩ := trodAll_cons r0
  obtain ⟨v2, vs2, d2, ds2, p2, q2, rfl, rfl, rfl, h2, r2⟩ := trodAll_cons r1
  obtain ⟨rfl, rfl, rfl⟩ := trodAll_nil r2
  obtain rfl : args = #[v0, v1, v2] := by cases args; simp_all
  obtain ⟨rfl, rfl⟩ := trodVars_none hV
  have hb := bound hk
  have b0 : Rows.uptoBulk d0 ≤ 1048576 := Nat.le_trans (part_le (by simp)) hb
  have b1 : Rows.uptoBulk d1 ≤ 1048576 := Nat.le_trans (part_le (by simp)) hb
  have k0 := h0
  have lt0 : ∀ x ∈ p0, x.block < W.heap.size := by obtain ⟨m, hm⟩ := k0; exact DataW.trod_lt m _ _ _ hm
  obtain ⟨a0, l0, c0, rfl⟩ := okWide_slice Tryd.underlying33 (hval 0 33 v0 rfl rfl)
  obtain ⟨z0, w0, m0⟩ : ∃ zs, IsRow .u8 W a0 l0 c0 zs ∧ c0 ≤ 1048576 := by
    obtain ⟨fuel, hf⟩ := h0
    rcases open_ints Tryd.underlying33 Tryd.underlying5 (by kernel_rfl) hf with ⟨hcs, _⟩ | ⟨x, l, c, zs, hcs, _, hl, hm, hz, hx, hcell, hwz⟩
    · simp [Value.cells] at hcs
      obtain ⟨rfl, rfl, rfl⟩ := hcs
      exact ⟨[], .inl ⟨rfl, rfl, rfl, rfl⟩, Nat.zero_le _⟩
    · simp [Value.cells] at hcs
      obtain ⟨rfl, rfl, rfl⟩ := hcs
      simp only [Prod.mk.injEq] at hx
      obtain ⟨hd, _⟩ := hx
      have hz : zs.length = c0 := by simpa using hz
      rw [hd] at b0
      have := bulk_row hl hz b0
      exact ⟨zs, .inr ⟨_, rfl, hl, hm, hz, hcell, hwz⟩, this⟩
  have k1 := h1
  have lt1 : ∀ x ∈ p1, x.block < W.heap.size := by obtain ⟨m, hm⟩ := k1; exact DataW.trod_lt m _ _ _ hm
  obtain ⟨f1, g1, y1, o1, n1, rfl, hd1, _, hy1, ho1⟩ := open_agg2 Tryd.underlying24 (by kernel_rfl) (by kernel_rfl) (hval 1 24 v1 rfl rfl) h1
  obtain ⟨e1, he1, _⟩ := DataW.trod_bool Tryd.underlying4 ho1
  simp only [List.cons.injEq, and_true] at he1
  subst he1
  obtain ⟨a1, l1, c1, z1, hf1, w1, m1⟩ : ∃ a l c zs, f1 = .slice a l c ∧ IsRow .i32 W a l c zs ∧ c ≤ 1048576 := by
    rcases open_ints Tryd.underlying22 Tryd.underlying21 (by kernel_rfl) hy1 with ⟨hcs, _⟩ | ⟨x, l, c, zs, hcs, _, hl, hm, hz, hx, hcell, hwz⟩
    · simp only [List.cons.injEq, and_true] at hcs
      exact ⟨_, _, _, [], hcs, .inl ⟨rfl, rfl, rfl, rfl⟩, Nat.zero_le _⟩
    · simp only [List.cons.injEq, and_true] at hcs
      have hz : zs.length = c := by simpa using hz
      rw [hd1, hx] at b1
      have := bulk_row hl hz (bulk_fst b1)
      exact ⟨_, _, _, zs, hcs, .inr ⟨_, rfl, hl, hm, hz, hcell, hwz⟩, this⟩
  subst hf1
  obtain ⟨a2, rfl, rfl, rfl, w2⟩ := open_int Tryd.underlying3 (hval 2 3 v2 rfl rfl) h2
  clear hA0
  have hl := cards.plainly hL (by kernel_rfl)
  have tU := cards.u8Tab hl 1 0 (by kernel_rfl) (by kernel_rfl)
  refine (strs.walkBFFSeq a0 l0 c0 z0 a1 l1 c1 z1 e1 a2 W w0 m0 w1 m1 w2 tU).mono fun e W' ⟨he, bel⟩ => ?_
  subst he
  exact ⟨_, rfl, _, _, _, [], _, [], hW', trodAll_mk1 (shut_bool Tryd.underlying4 _), (trodAll_cons_mk (Below.trod laidOut (by kernel_rfl) (of_decide_eq_true (by kernel_rfl)) k0 bel lt0) (trodAll_cons_mk (Below.trod laidOut (by kernel_rfl) (of_decide_eq_true (by kernel_rfl)) k1 bel lt1) (trodAll_cons_mk (shut_int Tryd.underlying3 w2) trodAll_mk0))), rfl, bel.frame _, fun h => by cases h⟩

theorem laid_met (os : Os) : laidMetH Tryd.prog Rows.fnBytesFieldsFuncSeqUptoRow.laid ((World.laidAll Tryd.prog os Rows.fnBytesFieldsFuncSeqUptoRow.laid).forCall (fun _ _ => 0) ⟨#[], #[.slice none 0 0, .agg #[.slice none 0 0, .bool false], .int .i64 0], []⟩).memory := by
  rw [MakeChecks.laidMetH_plain _ _ _ (by kernel_rfl)]
  exact laidMet_laidAll _ (by kernel_rfl) (by kernel_rfl)
theorem reads (os : Os) {H : Type} (enc : TypeId × Value → H) : ∃ places, DataW.whole enc Tryd.prog ((World.laidAll Tryd.prog os Rows.fnBytesFieldsFuncSeqUptoRow.laid).forCall (fun _ _ => 0) ⟨#[], #[.slice none 0 0, .agg #[.slice none 0 0, .bool false], .int .i64 0], []⟩).memory Tryd.f7.params.toList Rows.fnBytesFieldsFuncSeqSpec.vars false (#[.slice none 0 0, .agg #[.slice none 0 0, .bool false], .int .i64 0] : Array Value).toList 8 = some ([.nil, .agg [.nil, .lit (.bool false)], .lit (.int .i64 0)], [], places) :=
  ⟨[], by kernel_rfl⟩

set_option maxRecDepth 100000 in
theorem lifted (os : Os) (started : os.Started) (H : Type) (enc : TypeId × Value → H) (F : Stop.Interp) :
    ReturnsInHanded {} Tryd.checked os 7 .any ((Rows.OpenSpec.upto Rows.fnBytesFieldsFuncSeqSpec).preRow enc Tryd.prog Tryd.f7 Rows.fnBytesFieldsFuncSeqUptoRow.domain false Rows.fnBytesFieldsFuncSeqUptoRow.laid) (((Rows.OpenSpec.upto Rows.fnBytesFieldsFuncSeqSpec).at F).post enc Tryd.prog Tryd.f7 false true false false) := by
  obtain ⟨places, hx⟩ := reads os enc
  refine returnsInHanded_of_row (C := Tryd.checked) (s := (Rows.OpenSpec.upto Rows.fnBytesFieldsFuncSeqSpec)) own started (by kernel_rfl) Tryd.func7
    (cards.witness_zip (enc := enc) (C := Tryd.checked) (World.laidAll Tryd.prog os Rows.fnBytesFieldsFuncSeqUptoRow.laid) #[.slice none 0 0, .agg #[.slice none 0 0, .bool false], .int .i64 0] (World.laidAll_os _ _ _) (World.shaped_of_ZipB (by kernel_rfl) (by kernel_rfl)) (by kernel_rfl)
      (OpenSpec.preRow_of_cond 8 hx (by kernel_rfl) (fun k hk => by cases hk; kernel_rfl) (by kernel_rfl) (laid_met os))) ?_
  intro W base args ds gs before hval hW _ hk _ hL _ _
  exact contract H enc W base args ds gs before hval hW (hk _ rfl) hL

theorem over : Rows.fnBytesFieldsFuncSeqUptoRow.holds Tryd.pinned (Rows.OpenSpec.upto Rows.fnBytesFieldsFuncSeqSpec) :=
  OpenClaim.holds_of_cond 7 Tryd.f7 rfl rfl rfl rfl rfl rfl rfl ⟨rfl, rfl, rfl, rfl, rfl⟩ rfl rfl rfl rfl rfl (by kernel_rfl) Tryd.func7 (by kernel_rfl)
    (of_decide_eq_true (by kernel_rfl)) (by unfold Func.isWrapper; first | (rw [if_pos (by decide +kernel)]; kernel_rfl) | (rw [if_neg (by decide +kernel)]; exact ⟨rfl, rfl⟩))
    (fun os started H enc _ F => by rw [OpenClaim.pre_eq_preRow]; exact lifted os started H enc F)

theorem plain (f : FuncId) (fn : Func) (hf : Tryd.pinned.checked.prog.funcNamed "lib-billhook/laws.FnBytesFieldsFuncSeq" = some f) (hfn : Tryd.pinned.checked.prog.funcs[f]? = some fn) :
    false = Tryd.pinned.checked.prog.looks [] ∧ ∀ (j : Nat) t, fn.params[j]? = some t → Tryd.pinned.checked.prog.wantsStandIn t = false := by
  obtain rfl : f = 7 := Option.some.inj ((show Tryd.prog.funcNamed "lib-billhook/laws.FnBytesFieldsFuncSeq" = some 7 by kernel_rfl).symm.trans hf) |>.symm
  obtain rfl : fn = Tryd.f7 := (Option.some.inj (Tryd.func7.symm.trans hfn)).symm
  refine ⟨by kernel_rfl, fun j t ht => ?_⟩
  rw [Tryd.params7] at ht
  have hm := Array.mem_of_getElem? ht
  simp only [List.mem_toArray, List.mem_cons, List.not_mem_nil, or_false] at hm
  rcases hm with rfl | rfl | rfl
  · exact (show Tryd.prog.wantsStandIn 33 = false by kernel_rfl)
  · exact (show Tryd.prog.wantsStandIn 24 = false by kernel_rfl)
  · exact (show Tryd.prog.wantsStandIn 3 = false by kernel_rfl)

/-- The statement. -/
theorem proved : Rows.FnBytesFieldsFuncSeqUptoCardSaid :=
  Claim7.holds_tied_plain_at .later [] _ _ _ _ over (fun _ h => by cases h) (by kernel_rfl) (fun _ h => by cases h) fnBytesFieldsFuncSeqUpto_row_tie rfl ⟨rfl, rfl⟩ (by kernel_rfl) rfl plain (by kernel_rfl)
#print axioms proved
end Go.Proofs.YtchkjdopoanjdaaDoor.fnBytesFieldsFuncSeq
