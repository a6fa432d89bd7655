/-
  For all strings s and prefix, laws.FnCutPrefixRestores returns true: prefix and what strings.CutPrefix returns are s where it was found, else it returns s; in prefix+s it is found. Conditions: none beyond the row's own.
-/
import Derived.Test.YtenamlnlpbogcaaRows
import Derived.WalkKit
import Derived.ProofKit
import Derived.OpenShut
import Derived.ShutString
import Derived.SizedLaws
import Derived.Lib.SmallJoins
import Derived.Lib.IndexBytes
namespace Go.Proofs.Ytenamlnlpbogcaa.fnCutPrefixRestores
open Go.ChangeShapes Go.WideShapes Go.ChangeAt Go.RowKit
open Go.ChangeMaps (open_string shut_string)
set_option linter.unusedVariables false

theorem own : ownKnob Try.prog.godebug = none := by kernel_rfl

theorem tl (s : ByteArray) : s.toList = s.data.toList := Lib.toList_data s
theorem whole (s : ByteArray) : s.data.toList.take s.size = s.data.toList := List.take_of_length_le (by rw [Lib.size_eq]; exact Nat.le_refl _)
/-- The head of p ++ s is p. -/
theorem head_app (p s : ByteArray) : (((p ++ s).extract 0 p.size).toList == p.toList) = true := by
  rw [beq_iff_eq, tl, tl, Lib.extract_data, Joins.data_append, List.drop_zero, Nat.sub_zero, Lib.size_eq p]
  exact List.take_left
/-- What stands behind p in p ++ s is s. -/
theorem rest_app (p s : ByteArray) : (((p ++ s).extract p.size (p.size + s.size)).toList == s.toList) = true := by
  rw [beq_iff_eq, tl, tl, Lib.extract_data, Joins.data_append, Nat.add_sub_cancel_left, Lib.size_eq p, List.drop_left]
  exact whole s
/-- A prefix and what stands behind it are the string. -/
theorem again_pre (s p : ByteArray) (h : ((s.extract 0 p.size).toList == p.toList) = true) : (p ++ s.extract p.size s.size).toList = s.toList := by
  rw [beq_iff_eq, tl, tl, Lib.extract_data, List.drop_zero, Nat.sub_zero] at h
  rw [tl, tl, Joins.data_append, Lib.extract_to_end, ← h]
  exact List.take_append_drop _ _
/- The walk: the Go text returns true. -/
set_option maxHeartbeats 1000000 in
theorem walk (a0 : ByteArray) (a1 : ByteArray) (w0 : a0.size ≤ maxLen) (w1 : a1.size ≤ maxLen) (w : World) (r0 : a0.size ≤ 140737488351232) (r1 : a1.size ≤ 140737488351232) :
    Calls Try.prog 4 #[.string a0, .string a1] w fun e w' => e = .returned (.bool true) ∧ Grown w w' := by
  clear w0 w1
  have p1 := head_app a1 a0
  have p2 := rest_app a1 a0
  by_cases h1 : a1.size ≤ a0.size
  · cases h2 : ((a0.extract 0 a1.size).toList == a1.toList)
    · go_enter Try.func4, Try.ntmps4
      go_wp2
      go_ret
      exact ⟨rfl, by repeat (first | exact Grown.refl _ | apply Grown.drew | apply Grown.alloc)⟩
    · have p3 := again_pre a0 a1 h2
      go_enter Try.func4, Try.ntmps4
      go_wp2
      go_ret
      exact ⟨rfl, by repeat (first | exact Grown.refl _ | apply Grown.drew | apply Grown.alloc)⟩
  · go_enter Try.func4, Try.ntmps4
    go_wp2
    go_ret
    exact ⟨rfl, by repeat (first | exact Grown.refl _ | apply Grown.drew | apply Grown.alloc)⟩

set_option maxRecDepth 100000 in
theorem lifted (os : Os) (started : os.Started) (H : Type) (enc : TypeId × Value → H) :
    ReturnsInHanded {} Try.checked os 4 .any (Rows.fnCutPrefixRestoresSpec.pre6 enc Try.prog Try.f4 Rows.fnCutPrefixRestoresRow.domain false) (Rows.fnCutPrefixRestoresSpec.post enc Try.prog Try.f4 false true false false) := by
  refine returnsInHanded_of_change_sized (C := Try.checked) own started (by kernel_rfl) Try.func4
    (ChangeSpec.witness6 (enc := enc) (C := Try.checked) false ⟨#[], #[.string ByteArray.empty, .string ByteArray.empty], []⟩ 8 (by kernel_rfl) (by kernel_rfl) (by kernel_rfl) (by kernel_rfl)) ?_
  intro W base args ds gs before hval0 hW hcnd hsz0 _
  have hsz : (DataW.weightsEach Try.prog (Try.f4.params.toList ++ Rows.fnCutPrefixRestoresSpec.plain.varTypes Try.prog) (ds ++ gs)).all (· ≤ reachBytes) = true := hsz0
  clear hsz0
  have hval : ∀ (j : Nat) t v, Try.f4.params[j]? = some t → args[j]? = some v → Value.okWide Try.prog W .any base t v := hval0
  have hW' := hW
  obtain ⟨p, q, hA0, hV, rfl, hfz, hnd⟩ := hW
  have hA : DataW.TrodAll enc Try.prog W 0 (fun _ => true) true Try.f4.params.toList args.toList ds p := hA0
  rw [Try.params4] at hA hval hsz
  obtain ⟨v0, vs0, d0, ds0, p0, q0, hargs, rfl, rfl, h0, r0⟩ := trodAll_cons hA
  obtain ⟨v1, vs1, d1, ds1, p1, q1, rfl, rfl, rfl, h1, r1⟩ := trodAll_cons r0
  obtain ⟨rfl, rfl, rfl⟩ := trodAll_nil r1
  obtain rfl : args = #[v0, v1] := by cases args; simp_all
  obtain ⟨rfl, rfl⟩ := trodVars_none hV
  obtain ⟨a0, rfl, rfl, rfl, w0⟩ := open_string Try.underlying9 (hval 0 9 v0 rfl rfl) h0
  obtain ⟨a1, rfl, rfl, rfl, w1⟩ := open_string Try.underlying9 (hval 1 9 v1 rfl rfl) h1
  clear hA0 hval0
  simp only [List.append_nil] at hW'
  have r0 : a0.size ≤ 140737488351232 := by have := sized_string hsz (j := 0) (t := 9) rfl rfl; rw [Lib.size_eq]; exact this
  have r1 : a1.size ≤ 140737488351232 := by have := sized_string hsz (j := 1) (t := 9) rfl rfl; rw [Lib.size_eq]; exact this
  refine (walk a0 a1 w0 w1 W r0 r1).mono fun e W' ⟨he, hg⟩ => ?_
  subst he
  exact ⟨_, rfl, post_of_same (pa := []) (pv := []) hW' (fun _ _ _ => (trodAll_cons_mk (shut_bool Try.underlying4 _) trodAll_mk0)) (fun sp _ => (trodAll_cons_mk (shut_string Try.underlying9 w0) (trodAll_cons_mk (shut_string Try.underlying9 w1) trodAll_mk0))) (fun _ _ => rfl) rfl
    (hg.frame _) hg.2.1 (ok_one (by kernel_rfl) rfl (okWide_bool_mk Try.underlying4 _))⟩

theorem over : Rows.fnCutPrefixRestoresRow.holds Try.pinned (OpenSpec.ofChange Rows.fnCutPrefixRestoresSpec) :=
  OpenClaim.holds_of_wide 4 Try.f4 rfl rfl rfl rfl rfl rfl rfl ⟨rfl, rfl, rfl, rfl, rfl⟩ rfl rfl rfl rfl rfl (by kernel_rfl) Try.func4 (by kernel_rfl)
    (of_decide_eq_true (by kernel_rfl)) (by unfold Func.isWrapper; first | (rw [if_pos (by decide +kernel)]; kernel_rfl) | (rw [if_neg (by decide +kernel)]; exact ⟨rfl, rfl⟩))
    (fun os started H enc _ => lifted os started H enc)

/-- The statement. -/
theorem proved : Rows.FnCutPrefixRestoresSaid :=
  over
#print axioms proved
end Go.Proofs.Ytenamlnlpbogcaa.fnCutPrefixRestores
