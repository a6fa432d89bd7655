/-
  The contract of spec.Valid: it returns a plain function of the string and changes nothing.
-/
import Derived.Test.YtchkjdopoanjdaaDoorRune
import Derived.LoopTactic
import Derived.Lib.TrimUEq
import Derived.Lib.FieldsU
import Derived.Lib.IndexBytes
import Derived.Lib.Hide
namespace Go.Proofs.YtchkjdopoanjdaaDoor.runes
open Go.RowKit Go.Lib
set_option linter.unusedVariables false

def valF : Nat → ByteArray → Bool
  | 0, _ => true
  | f + 1, t => if t.size = 0 then true else if Utf8.decode t 0 = (65533, 1) then false else valF f (t.extract (Utf8.decode t 0).2 t.size)
def validB (s : ByteArray) : Bool := valF (s.size + 1) s
def strLen (v : Value) : Nat := match v with | .string t => t.size | _ => 0

theorem ret_bool {a b : Bool} (h : a = b) : Ending.returned (.bool a) = .returned (.bool b) := by rw [h]

set_option maxHeartbeats 2000000 in
theorem specValid (s : ByteArray) (w : World) (hs : s.size ≤ 8388608) :
    Calls Tryd.prog 29 #[.string s] w fun e w' => e = .returned (.bool (validB s)) ∧ w = w' := by
  go_enter Tryd.func29, Tryd.ntmps29
  go_wp2
  go_loop [0] (fun v => ∃ (t : ByteArray) (f : Nat), v = .string t ∧ t.size ≤ 8388608 ∧ t.size < f ∧ validB s = valF f t) (fun v => strLen v)
  case atStart => exact ⟨s, s.size + 1, rfl, hs, Nat.lt_succ_self _, rfl⟩
  case round =>
    obtain ⟨t, f, rfl, ht, hf, hv⟩ := hrel
    obtain ⟨f', rfl⟩ : ∃ f', f = f' + 1 := ⟨f - 1, by omega⟩
    by_cases h0 : t.size = 0
    · have hv2 : validB s = true := by rw [hv, valF, if_pos h0]
      have HV := Lib.hid hv2
      have e1 : t.toList = [] := by rw [Lib.toList_data]; exact List.eq_nil_of_length_eq_zero (by rw [← Lib.size_eq]; exact h0)
      clear hv hv2 h0
      go_wp2
      go_ret
      exact ⟨ret_bool HV.out.symm, rfl⟩
    · have e1 : ¬ t.toList = [] := by
        rw [Lib.toList_data]
        intro e
        have := congrArg List.length e
        rw [← Lib.size_eq] at this
        exact h0 this
      have e2 : (!t.toList.isEmpty) = true := by simpa using e1
      clear e1
      have con := specRune t w (by omega) (by omega)
      have hwd := Lib.width_pos t 0
      have hwn : (Utf8.decode t 0).2 ≤ t.size := by
        have := Lib.decodeN_le_n' (t.size - 0) (t.get! 0).toNat (t.get! (0 + 1)).toNat (t.get! (0 + 2)).toNat (t.get! (0 + 3)).toNat (by omega)
        rw [← Lib.decode_at] at this
        omega
      have hv2 : validB s = if Utf8.decode t 0 = (65533, 1) then false else valF f' (t.extract (Utf8.decode t 0).2 t.size) := by rw [hv, valF, if_neg h0]
      clear hv
      generalize hD : Utf8.decode t 0 = D at *
      obtain ⟨R, K⟩ := D
      dsimp only at *
      have con1 : Calls Tryd.prog 39 #[.string t] w fun e w' => e = .returned (.tuple #[.int .i32 (R : Int), .int .i64 (K : Int)]) ∧ w = w' := con
      clear con hD
      cases hR : ((R : Int) == 65533)
      · have hv3 : validB s = valF f' (t.extract K t.size) := by rw [hv2, if_neg (fun e => by cases e; simp at hR)]
        have HV := Lib.hid hv3
        clear hv2 hv3
        go_wp2_with (go_at_call 39; refine con1.mono ?_; rintro e w' ⟨rfl, rfl⟩)
        go_round
        case rel => exact ⟨t.extract K t.size, f', rfl, by rw [ByteArray.size_extract]; omega, by rw [ByteArray.size_extract]; omega, HV.out⟩
        case measure => simp only [strLen, ByteArray.size_extract]; omega
      · have hR' : R = 65533 := by have : (R : Int) = 65533 := by simpa using hR
                                   omega
        cases hK : ((K : Int) == 1)
        · have hv3 : validB s = valF f' (t.extract K t.size) := by rw [hv2, if_neg (fun e => by cases e; simp at hK)]
          have HV := Lib.hid hv3
          clear hv2 hv3 hR'
          go_wp2_with (go_at_call 39; refine con1.mono ?_; rintro e w' ⟨rfl, rfl⟩)
          go_round
          case rel => exact ⟨t.extract K t.size, f', rfl, by rw [ByteArray.size_extract]; omega, by rw [ByteArray.size_extract]; omega, HV.out⟩
          case measure => simp only [strLen, ByteArray.size_extract]; omega
        · have hK' : K = 1 := by have : (K : Int) = 1 := by simpa using hK
                                 omega
          have hv3 : validB s = false := by rw [hv2, hR', hK', if_pos rfl]
          have HV := Lib.hid hv3
          clear hv2 hv3 hR' hK'
          go_wp2_with (go_at_call 39; refine con1.mono ?_; rintro e w' ⟨rfl, rfl⟩)
          go_ret
          exact ⟨ret_bool HV.out.symm, rfl⟩
end Go.Proofs.YtchkjdopoanjdaaDoor.runes
