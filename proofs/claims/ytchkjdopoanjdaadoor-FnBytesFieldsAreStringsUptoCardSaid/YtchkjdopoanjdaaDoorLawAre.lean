/-
  laws.FnBytesFieldsAreStrings returns true
-/
import Derived.Test.YtchkjdopoanjdaaDoorRows
import Derived.Test.YtchkjdopoanjdaaDoorCards
import Derived.Test.YtchkjdopoanjdaaDoorTie
import Derived.Test.YtchkjdopoanjdaaDoorCard
import Derived.Test.YtchkjdopoanjdaaDoorWalkAre
import Derived.Test.YtchkjdopoanjdaaDoorBase
import Derived.ProofKit
import Derived.OpenShut
import Derived.ShutString
import Derived.ChangeOld
import Derived.Below
import Derived.SizedLaws
import Derived.JoinedCond
import Derived.Lib.SmallJoins
namespace Go.Proofs.YtchkjdopoanjdaaDoor.fnBytesFieldsAreStrings
open Go.ChangeShapes Go.WideShapes Go.ChangeAt Go.RowKit Go.Joins
open Go.ChangeMaps (open_string shut_string)
open Go.Proofs.YtchkjdopoanjdaaDoor.base
set_option linter.unusedVariables false

set_option maxRecDepth 100000 in
theorem contract (H : Type) (enc : TypeId × Value → H) (W : World) (base : Nat) (args : Array Value) (ds gs : List (DataW H)) (before : List MemPlace)
    (hval : ∀ (j : Nat) t v, Tryd.f5.params[j]? = some t → args[j]? = some v → Value.okWide Tryd.prog W .any base t v)
    (hW : DataW.Whole enc Tryd.prog Tryd.f5.params.toList Rows.fnBytesFieldsAreStringsSpec.vars false W args.toList ds gs before) (hk : Rows.uptoSmall H (ds ++ gs) = true) (hL : laidMetH Tryd.prog Rows.fnBytesFieldsAreStringsUptoRow.laid W) :
    Calls Tryd.prog 5 args W fun e W' => ∃ v, e = .returned v ∧ Rows.fnBytesFieldsAreStringsSpec.post enc Tryd.prog Tryd.f5 false true false false W args v W' := by
  have hW' := hW
  obtain ⟨p, q, hA0, hV, rfl, hfz, hnd⟩ := hW
  have hA : DataW.TrodAll enc Tryd.prog W 0 (fun _ => true) true Tryd.f5.params.toList args.toList ds p := hA0
  rw [Tryd.params5] at hA hval
  obtain ⟨v0, vs0, d0, ds0, p0, q0, hargs, rfl, rfl, h0, r0⟩ := trodAll_cons hA
  obtain ⟨v1, vs1, d1, ds1, p1, q1, rfl, rfl, rfl, h1, r1⟩ := trodAll_cons r0
  obtain ⟨v2, vs2, d2, ds2, p2, q2, rfl, rfl, rfl, h2, r2⟩ := trodAll_cons r1
  obtain ⟨rfl, rfl, rfl⟩ := trodAll_nil r2
  obtain rfl : args = #[v0, v1, v2] := by cases args; simp_all
  obtain ⟨rfl, rfl⟩ := trodVars_none hV
  have hb := bound hk
  have b0 : Rows.uptoBulk d0 ≤ 1048576 := Nat.le_trans (part_le (by simp)) hb
  have b1 : Rows.uptoBulk d1 ≤ 1048576 := Nat.le_trans (part_le (by simp)) hb
  obtain ⟨a0, rfl, rfl, rfl, w0⟩ := open_string Tryd.underlying9 (hval 0 9 v0 rfl rfl) h0
  have m0 : a0.size ≤ 1048576 := by have := bulk_string b0; rw [Lib.size_eq]; omega
  have k1 := h1
  have lt1 : ∀ x ∈ p1, x.block < W.heap.size := by obtain ⟨m, hm⟩ := k1; exact DataW.trod_lt m _ _ _ hm
  obtain ⟨f1, g1, y1, o1, n1, rfl, hd1, _, hy1, ho1⟩ := open_agg2 Tryd.underlying24 (by kernel_rfl) (by kernel_rfl) (hval 1 24 v1 rfl rfl) h1
  obtain ⟨e1, he1, _⟩ := DataW.trod_bool Tryd.underlying4 ho1
  simp only [List.cons.injEq, and_true] at he1
  subst he1
  obtain ⟨a1, l1, c1, z1, hf1, w1, m1⟩ : ∃ a l c zs, f1 = .slice a l c ∧ IsRow .i32 W a l c zs ∧ c ≤ 1048576 := by
    rcases open_ints Tryd.underlying22 Tryd.underlying21 (by kernel_rfl) hy1 with ⟨hcs, _⟩ | ⟨x, l, c, zs, hcs, _, hl, hm, hz, hx, hcell, hwz⟩
    · simp only [List.cons.injEq, and_true] at hcs
      exact ⟨_, _, _, [], hcs, .inl ⟨rfl, rfl, rfl, rfl⟩, Nat.zero_le _⟩
    · simp only [List.cons.injEq, and_true] at hcs
      have hz : zs.length = c := by simpa using hz
      rw [hd1, hx] at b1
      have := bulk_row hl hz (bulk_fst b1)
      exact ⟨_, _, _, zs, hcs, .inr ⟨_, rfl, hl, hm, hz, hcell, hwz⟩, this⟩
  subst hf1
  obtain ⟨a2, rfl, rfl, rfl, w2⟩ := open_int Tryd.underlying3 (hval 2 3 v2 rfl rfl) h2
  clear hA0
  have hl := cards.plainly hL (by kernel_rfl)
  have tS := cards.spTab hl 3 1 (by kernel_rfl) (by kernel_rfl)
  have tU := cards.u8Tab hl 4 0 (by kernel_rfl) (by kernel_rfl)
  have tB := cards.bsTab hl 2 1 (by kernel_rfl) (by kernel_rfl)
  refine (strs.walkAre a0 a1 l1 c1 z1 e1 a2 W m0 w1 m1 w2 tS tU tB).mono fun e W' ⟨he, bel⟩ => ?_
  subst he
  exact ⟨_, rfl, _, _, _, [], _, [], hW', trodAll_mk1 (shut_bool Tryd.underlying4 _), (trodAll_cons_mk (shut_string Tryd.underlying9 w0) (trodAll_cons_mk (Below.trod laidOut (by kernel_rfl) (of_decide_eq_true (by kernel_rfl)) k1 bel lt1) (trodAll_cons_mk (shut_int Tryd.underlying3 w2) trodAll_mk0))), rfl, bel.frame _, fun h => by cases h⟩

theorem laid_met (os : Os) : laidMetH Tryd.prog Rows.fnBytesFieldsAreStringsUptoRow.laid ((World.laidAll Tryd.prog os Rows.fnBytesFieldsAreStringsUptoRow.laid).forCall (fun _ _ => 0) ⟨#[], #[.string ByteArray.empty, .agg #[.slice none 0 0, .bool false], .int .i64 0], []⟩).memory := by
  rw [MakeChecks.laidMetH_plain _ _ _ (by kernel_rfl)]
  exact laidMet_laidAll _ (by kernel_rfl) (by kernel_rfl)
theorem reads (os : Os) {H : Type} (enc : TypeId × Value → H) : ∃ places, DataW.whole enc Tryd.prog ((World.laidAll Tryd.prog os Rows.fnBytesFieldsAreStringsUptoRow.laid).forCall (fun _ _ => 0) ⟨#[], #[.string ByteArray.empty, .agg #[.slice none 0 0, .bool false], .int .i64 0], []⟩).memory Tryd.f5.params.toList Rows.fnBytesFieldsAreStringsSpec.vars false (#[.string ByteArray.empty, .agg #[.slice none 0 0, .bool false], .int .i64 0] : Array Value).toList 8 = some ([.lit (.string []), .agg [.nil, .lit (.bool false)], .lit (.int .i64 0)], [], places) :=
  ⟨[], by kernel_rfl⟩

set_option maxRecDepth 100000 in
theorem lifted (os : Os) (started : os.Started) (H : Type) (enc : TypeId × Value → H) (F : Stop.Interp) :
    ReturnsInHanded {} Tryd.checked os 5 .any ((Rows.OpenSpec.upto Rows.fnBytesFieldsAreStringsSpec).preRow enc Tryd.prog Tryd.f5 Rows.fnBytesFieldsAreStringsUptoRow.domain false Rows.fnBytesFieldsAreStringsUptoRow.laid) (((Rows.OpenSpec.upto Rows.fnBytesFieldsAreStringsSpec).at F).post enc Tryd.prog Tryd.f5 false true false false) := by
  obtain ⟨places, hx⟩ := reads os enc
  refine returnsInHanded_of_row (C := Tryd.checked) (s := (Rows.OpenSpec.upto Rows.fnBytesFieldsAreStringsSpec)) own started (by kernel_rfl) Tryd.func5
    (cards.witness_zip (enc := enc) (C := Tryd.checked) (World.laidAll Tryd.prog os Rows.fnBytesFieldsAreStringsUptoRow.laid) #[.string ByteArray.empty, .agg #[.slice none 0 0, .bool false], .int .i64 0] (World.laidAll_os _ _ _) (World.shaped_of_ZipB (by kernel_rfl) (by kernel_rfl)) (by kernel_rfl)
      (OpenSpec.preRow_of_cond 8 hx (by kernel_rfl) (fun k hk => by cases hk; kernel_rfl) (by kernel_rfl) (laid_met os))) ?_
  intro W base args ds gs before hval hW _ hk _ hL _ _
  exact contract H enc W base args ds gs before hval hW (hk _ rfl) hL

theorem over : Rows.fnBytesFieldsAreStringsUptoRow.holds Tryd.pinned (Rows.OpenSpec.upto Rows.fnBytesFieldsAreStringsSpec) :=
  OpenClaim.holds_of_cond 5 Tryd.f5 rfl rfl rfl rfl rfl rfl rfl ⟨rfl, rfl, rfl, rfl, rfl⟩ rfl rfl rfl rfl rfl (by kernel_rfl) Tryd.func5 (by kernel_rfl)
    (of_decide_eq_true (by kernel_rfl)) (by unfold Func.isWrapper; first | (rw [if_pos (by decide +kernel)]; kernel_rfl) | (rw [if_neg (by decide +kernel)]; exact ⟨rfl, rfl⟩))
    (fun os started H enc _ F => by rw [OpenClaim.pre_eq_preRow]; exact lifted os started H enc F)

theorem plain (f : FuncId) (fn : Func) (hf : Tryd.pinned.checked.prog.funcNamed "lib-billhook/laws.FnBytesFieldsAreStrings" = some f) (hfn : Tryd.pinned.checked.prog.funcs[f]? = some fn) :
    false = Tryd.pinned.checked.prog.looks [] ∧ ∀ (j : Nat) t, fn.params[j]? = some t → Tryd.pinned.checked.prog.wantsStandIn t = false := by
  obtain rfl : f = 5 := Option.some.inj ((show Tryd.prog.funcNamed "lib-billhook/laws.FnBytesFieldsAreStrings" = some 5 by kernel_rfl).symm.trans hf) |>.symm
  obtain rfl : fn = Tryd.f5 := (Option.some.inj (Tryd.func5.symm.trans hfn)).symm
  refine ⟨by kernel_rfl, fun j t ht => ?_⟩
  rw [Tryd.params5] at ht
  have hm := Array.mem_of_getElem? ht
  simp only [List.mem_toArray, List.mem_cons, List.not_mem_nil, or_false] at hm
  rcases hm with rfl | rfl | rfl
  · exact (show Tryd.prog.wantsStandIn 9 = false by kernel_rfl)
  · exact (show Tryd.prog.wantsStandIn 24 = false by kernel_rfl)
  · exact (show Tryd.prog.wantsStandIn 3 = false by kernel_rfl)

/-- The statement. -/
theorem proved : Rows.FnBytesFieldsAreStringsUptoCardSaid :=
  Claim7.holds_tied_plain_at .later [] _ _ _ _ over (fun _ h => by cases h) (by kernel_rfl) (fun _ h => by cases h) fnBytesFieldsAreStringsUpto_row_tie rfl ⟨rfl, rfl⟩ (by kernel_rfl) rfl plain (by kernel_rfl)
#print axioms proved
end Go.Proofs.YtchkjdopoanjdaaDoor.fnBytesFieldsAreStrings
