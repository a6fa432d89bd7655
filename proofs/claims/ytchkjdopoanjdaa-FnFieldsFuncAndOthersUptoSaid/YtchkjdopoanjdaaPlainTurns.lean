/-
  Plain law: the pieces of a class and those of all others, taken in turn, are the string.
-/
import Derived.Test.YtchkjdopoanjdaaChars
import Derived.Test.YtchkjdopoanjdaaTurns
import Derived.Test.YtchkjdopoanjdaaSpecFF
namespace Go.Proofs.Ytchkjdopoanjdaa.plain
open Go.Lib iters sets
set_option linter.unusedVariables false

def turnsL : List (List UInt8) → List (List UInt8) → List UInt8
  | [], [] => []
  | x :: xs, [] => x ++ turnsL xs []
  | [], y :: ys => y ++ turnsL [] ys
  | x :: xs, y :: ys => (x ++ y) ++ turnsL xs ys
theorem turnsL_swap : ∀ (x : List UInt8) (xs ys : List (List UInt8)), turnsL (x :: xs) ys = x ++ turnsL ys xs
  | x, [], [] => by simp [turnsL]
  | x, a :: xs, [] => by rw [turnsL, turnsL_nil]
  | x, [], y :: ys => by rw [turnsL, turnsL, List.append_assoc, turnsL_nil]
  | x, a :: xs, y :: ys => by rw [turnsL, turnsL_swap a xs ys, turnsL]; simp only [List.append_assoc]
where
  turnsL_nil : ∀ {xs : List (List UInt8)}, turnsL xs [] = turnsL [] xs
    | [] => rfl
    | x :: xs => by rw [turnsL, turnsL, turnsL_nil]
theorem ba_app (a b : List UInt8) : ba (a ++ b) = ba a ++ ba b := by
  apply ByteArray.ext
  apply Array.toList_inj.1
  rw [Joins.data_append]
  simp [ba]
theorem turnsB_ba : ∀ (xs ys : List (List UInt8)), turnsB (xs.map ba) (ys.map ba) = ba (turnsL xs ys)
  | [], [] => by simp [turnsB, turnsL, ba]
  | x :: xs, [] => by simp only [List.map_cons, List.map_nil, turnsB, turnsL]; rw [ba_app, ← turnsB_ba xs []]; rfl
  | [], y :: ys => by simp only [List.map_cons, List.map_nil, turnsB, turnsL]; rw [ba_app, ← turnsB_ba [] ys]; rfl
  | x :: xs, y :: ys => by simp only [List.map_cons, turnsB, turnsL]; rw [ba_app, ba_app, ← turnsB_ba xs ys]

theorem turn_run : ∀ (cs : List Chunk) (p q : Nat → Bool) (cur : List UInt8), (∀ r, q r = !p r) → (∀ c ∈ cs, c.2 ≠ []) → cur ≠ [] → turnsL (fieldsC p cs cur) (fieldsC q cs []) = cur ++ cs.flatMap (·.2)
  | [], p, q, cur, hq, hn, hc => by simp [fieldsC, fin, hc, turnsL]
  | c :: cs, p, q, cur, hq, hn, hc => by
    have hc2 := hn c (List.mem_cons_self ..)
    have hn' : ∀ x ∈ cs, x.2 ≠ [] := fun x hx => hn x (List.mem_cons_of_mem _ hx)
    cases hp : p c.1
    · have hqc : q c.1 = true := by rw [hq, hp]; rfl
      simp only [fieldsC, hp, hqc, if_true, Bool.false_eq_true, if_false]
      rw [show fin [] = [] from rfl, List.nil_append, turn_run cs p q (cur ++ c.2) hq hn' (by simp [hc]), List.flatMap_cons, List.append_assoc]
    · have hqc : q c.1 = false := by rw [hq, hp]; rfl
      simp only [fieldsC, hp, hqc, if_true, Bool.false_eq_true, if_false]
      rw [show fin cur = [cur] by simp [fin, hc], List.singleton_append, List.nil_append, turnsL_swap, turn_run cs q p c.2 (fun r => by rw [hq, Bool.not_not]) hn' hc2, List.flatMap_cons]

theorem turn_all {p q : Nat → Bool} (hq : ∀ r, q r = !p r) {l : List UInt8} (hl : l ≠ []) (hp : p (decodeL l).1 = false) : turnsL (fieldsL p l) (fieldsL q l) = l := by
  have hqc : q (decodeL l).1 = true := by rw [hq, hp]; rfl
  have hne := chars_ne l
  have hfl := chars_flat l
  unfold fieldsL
  rw [chars_cons hl] at hne hfl ⊢
  simp only [fieldsC, hp, hqc, if_true, Bool.false_eq_true, if_false]
  rw [show fin [] = [] from rfl, List.nil_append, List.nil_append, turn_run _ p q _ hq (fun x hx => hne x (List.mem_cons_of_mem _ hx)) (hne _ (List.mem_cons_self ..))]
  rw [List.flatMap_cons] at hfl
  exact hfl

theorem turns_eq {p q : Nat → Bool} (hq : ∀ r, q r = !p r) {s : ByteArray} (hs : s.size ≠ 0) (hp : p (Utf8.decode s 0).1 = false) : turnsB (goFieldsP p s) (goFieldsP q s) = s := by
  have e : decodeL s.data.toList = Utf8.decode s 0 := rfl
  rw [fields_ba, fields_ba, turnsB_ba, turn_all hq (fun h => hs (by rw [size_eq, h]; rfl)) (by rw [e]; exact hp)]
  exact ba_data s
theorem fields_empty (p : Nat → Bool) {s : ByteArray} (hs : s.size = 0) : goFieldsP p s = [] := by
  have := fields_len p s
  exact List.eq_nil_of_length_eq_zero (by omega)

theorem hasI_not (xs : List Int) (neg : Bool) (r : Int) : hasI xs (!neg) r = !hasI xs neg r := by
  unfold hasI
  split <;> cases neg <;> rfl
theorem clsP_not (xs : List Int) (neg : Bool) (r : Nat) : clsP xs (!neg) r = !clsP xs neg r := hasI_not xs neg r
theorem hasI_ne (xs : List Int) (neg : Bool) (r : Int) : (hasI xs false r != neg) = hasI xs neg r := by
  unfold hasI
  split <;> cases neg <;> rfl
end Go.Proofs.Ytchkjdopoanjdaa.plain
