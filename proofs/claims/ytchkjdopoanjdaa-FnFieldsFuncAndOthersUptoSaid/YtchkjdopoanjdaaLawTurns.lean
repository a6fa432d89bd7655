/-
  laws.FnFieldsFuncAndOthers returns true
-/
import Derived.Test.YtchkjdopoanjdaaRows
import Derived.Test.YtchkjdopoanjdaaWalkTurns
import Derived.Test.YtchkjdopoanjdaaBase
import Derived.ProofKit
import Derived.OpenShut
import Derived.ShutString
import Derived.ChangeOld
import Derived.Below
import Derived.SizedLaws
import Derived.JoinedCond
import Derived.Lib.SmallJoins
namespace Go.Proofs.Ytchkjdopoanjdaa.fnFieldsFuncAndOthers
open Go.ChangeShapes Go.WideShapes Go.ChangeAt Go.RowKit Go.Joins
open Go.ChangeMaps (open_string shut_string)
open Go.Proofs.Ytchkjdopoanjdaa.base
set_option linter.unusedVariables false

set_option maxRecDepth 100000 in
theorem contract (H : Type) (enc : TypeId × Value → H) (W : World) (base : Nat) (args : Array Value) (ds gs : List (DataW H)) (before : List MemPlace)
    (hval : ∀ (j : Nat) t v, Try.f4.params[j]? = some t → args[j]? = some v → Value.okWide Try.prog W .any base t v)
    (hW : DataW.Whole enc Try.prog Try.f4.params.toList Rows.fnFieldsFuncAndOthersSpec.vars false W args.toList ds gs before) (hk : Rows.uptoSmall H (ds ++ gs) = true) :
    Calls Try.prog 4 args W fun e W' => ∃ v, e = .returned v ∧ Rows.fnFieldsFuncAndOthersSpec.post enc Try.prog Try.f4 false true false false W args v W' := by
  have hW' := hW
  obtain ⟨p, q, hA0, hV, rfl, hfz, hnd⟩ := hW
  have hA : DataW.TrodAll enc Try.prog W 0 (fun _ => true) true Try.f4.params.toList args.toList ds p := hA0
  rw [Try.params4] at hA hval
  obtain ⟨v0, vs0, d0, ds0, p0, q0, hargs, rfl, rfl, h0, r0⟩ := trodAll_cons hA
  obtain ⟨v1, vs1, d1, ds1, p1, q1, rfl, rfl, rfl, h1, r1⟩ := trodAll_cons r0
  obtain ⟨rfl, rfl, rfl⟩ := trodAll_nil r1
  obtain rfl : args = #[v0, v1] := by cases args; simp_all
  obtain ⟨rfl, rfl⟩ := trodVars_none hV
  have hb := bound hk
  have b0 : Rows.uptoBulk d0 ≤ 1048576 := Nat.le_trans (part_le (by simp)) hb
  have b1 : Rows.uptoBulk d1 ≤ 1048576 := Nat.le_trans (part_le (by simp)) hb
  obtain ⟨a0, rfl, rfl, rfl, w0⟩ := open_string Try.underlying9 (hval 0 9 v0 rfl rfl) h0
  have m0 : a0.size ≤ 1048576 := by have := bulk_string b0; rw [Lib.size_eq]; omega
  have k1 := h1
  have lt1 : ∀ x ∈ p1, x.block < W.heap.size := by obtain ⟨m, hm⟩ := k1; exact DataW.trod_lt m _ _ _ hm
  obtain ⟨f1, g1, y1, o1, n1, rfl, hd1, _, hy1, ho1⟩ := open_agg2 Try.underlying24 (by kernel_rfl) (by kernel_rfl) (hval 1 24 v1 rfl rfl) h1
  obtain ⟨e1, he1, _⟩ := DataW.trod_bool Try.underlying4 ho1
  simp only [List.cons.injEq, and_true] at he1
  subst he1
  obtain ⟨a1, l1, c1, z1, hf1, w1, m1⟩ : ∃ a l c zs, f1 = .slice a l c ∧ IsRow .i32 W a l c zs ∧ c ≤ 1048576 := by
    rcases open_ints Try.underlying22 Try.underlying21 (by kernel_rfl) hy1 with ⟨hcs, _⟩ | ⟨x, l, c, zs, hcs, _, hl, hm, hz, hx, hcell, hwz⟩
    · simp only [List.cons.injEq, and_true] at hcs
      exact ⟨_, _, _, [], hcs, .inl ⟨rfl, rfl, rfl, rfl⟩, Nat.zero_le _⟩
    · simp only [List.cons.injEq, and_true] at hcs
      have hz : zs.length = c := by simpa using hz
      rw [hd1, hx] at b1
      have := bulk_row hl hz (bulk_fst b1)
      exact ⟨_, _, _, zs, hcs, .inr ⟨_, rfl, hl, hm, hz, hcell, hwz⟩, this⟩
  subst hf1
  clear hA0
  refine (strs.walkTurns a0 a1 l1 c1 z1 e1 W m0 w1 m1).mono fun e W' ⟨he, bel⟩ => ?_
  subst he
  exact ⟨_, rfl, _, _, _, [], _, [], hW', trodAll_mk1 (shut_bool Try.underlying4 _), (trodAll_cons_mk (shut_string Try.underlying9 w0) (trodAll_cons_mk (Below.trod laidOut (by kernel_rfl) (of_decide_eq_true (by kernel_rfl)) k1 bel lt1) trodAll_mk0)), rfl, bel.frame _, fun h => by cases h⟩

set_option maxRecDepth 100000 in
theorem lifted (os : Os) (started : os.Started) (H : Type) (enc : TypeId × Value → H) (F : Stop.Interp) :
    ReturnsInHanded {} Try.checked os 4 .any ((Rows.OpenSpec.upto Rows.fnFieldsFuncAndOthersSpec).pre6 enc Try.prog Try.f4 Rows.fnFieldsFuncAndOthersUptoRow.domain false) (((Rows.OpenSpec.upto Rows.fnFieldsFuncAndOthersSpec).at F).post enc Try.prog Try.f4 false true false false) := by
  refine returnsInHanded_of_cond (C := Try.checked) (s := (Rows.OpenSpec.upto Rows.fnFieldsFuncAndOthersSpec)) (k := Rows.uptoSmall) rfl own started (by kernel_rfl) Try.func4
    (OpenSpec.witness (enc := enc) (C := Try.checked) (s := (Rows.OpenSpec.upto Rows.fnFieldsFuncAndOthersSpec)) (k := Rows.uptoSmall) rfl false ⟨#[], #[.string ByteArray.empty, .agg #[.slice none 0 0, .bool false]], []⟩ 8 (by kernel_rfl) (by kernel_rfl) (by kernel_rfl)
      (x := ([.lit (.string []), .agg [.nil, .lit (.bool false)]], [], [])) (by kernel_rfl) rfl (by kernel_rfl)) ?_
  intro W base args ds gs before hval hW _ hk _
  exact contract H enc W base args ds gs before hval hW hk

theorem over : Rows.fnFieldsFuncAndOthersUptoRow.holds Try.pinned (Rows.OpenSpec.upto Rows.fnFieldsFuncAndOthersSpec) :=
  OpenClaim.holds_of_cond 4 Try.f4 rfl rfl rfl rfl rfl rfl rfl ⟨rfl, rfl, rfl, rfl, rfl⟩ rfl rfl rfl rfl rfl (by kernel_rfl) Try.func4 (by kernel_rfl)
    (of_decide_eq_true (by kernel_rfl)) (by unfold Func.isWrapper; first | (rw [if_pos (by decide +kernel)]; kernel_rfl) | (rw [if_neg (by decide +kernel)]; exact ⟨rfl, rfl⟩))
    (fun os started H enc _ F => lifted os started H enc F)

/-- The statement. -/
theorem proved : Rows.FnFieldsFuncAndOthersUptoSaid := over
#print axioms proved
end Go.Proofs.Ytchkjdopoanjdaa.fnFieldsFuncAndOthers
