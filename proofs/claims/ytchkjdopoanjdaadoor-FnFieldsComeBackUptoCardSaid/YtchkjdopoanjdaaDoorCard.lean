/-
  What every card's frame shares: a witness at a world of a given shape; the table facts off a row's list.
-/
import Derived.Test.YtchkjdopoanjdaaDoorTabs
import Derived.Deep.DeepHandedRow
import Derived.Lay
import Derived.MakeChecks
namespace Go.Proofs.YtchkjdopoanjdaaDoor.cards
open Go.Lib iters
set_option linter.unusedVariables false

theorem witness_zip {H : Type} {enc : TypeId × Value → H} {C : Checked} {os : Os} {f : FuncId} {fn : Func} {s : OpenSpec} {conds : List PathCond} {apart : Bool} {laid : List (String × DataW Unit)} (w0 : World) (args : Array Value) (hos : w0.os = os)
    (hsh : (w0.forCall (fun _ _ => 0) ⟨#[], args, []⟩).Shaped C.prog)
    (hok : Input.okWideB C.prog (w0.forCall (fun _ _ => 0) ⟨#[], args, []⟩) f ⟨#[], args, []⟩ = true)
    (hrow : s.preRow enc C.prog fn conds apart laid (w0.forCall (fun _ _ => 0) ⟨#[], args, []⟩).memory args) :
    ∃ (w : World) (tape : Tape) (i : Input), w.os = os ∧ (w.forCall tape i).Shaped C.prog ∧ i.vars = [] ∧ Input.okWide C.prog (w.forCall tape i) .any w.heap.size f i ∧
      s.preRow enc C.prog fn conds apart laid (w.forCall tape i).memory i.args ∧ ({} : Assume).holds C.prog (lone (Frame.enter C.prog f i.args .normal) [] (w.forCall tape i)) :=
  ⟨w0, fun _ _ => 0, ⟨#[], args, []⟩, hos, hsh, (Input.okWide_of_okWideB (base := 0) hok).1, (Input.okWide_of_okWideB hok).2, hrow, by
    simp only [Assume.holds]
    exact ⟨by simp, by simp, fun _ => Modest.zero, by simp, by simp⟩⟩

theorem plainly {laid : List (String × DataW Unit)} {w : World} (hL : laidMetH Tryd.prog laid w) (h : (laid.all fun x => x.2.handleName?.isNone) = true) : laidMet Tryd.prog laid w := by
  rw [MakeChecks.laidMetH_plain _ _ _ h] at hL
  exact hL
theorem spTab {laid : List (String × DataW Unit)} {w : World} (hL : laidMet Tryd.prog laid w) (i j : Nat) (hi : laid[i]? = some ("strings.asciiSpace", tabData .u8 asciiSpaceTab)) (hj : laid[j]? = some ("unicode.White_Space", whiteData)) : SpTab w := ⟨asc_s (reads_at hL i hi), white (reads_at hL j hj)⟩
theorem bsTab {laid : List (String × DataW Unit)} {w : World} (hL : laidMet Tryd.prog laid w) (i j : Nat) (hi : laid[i]? = some ("bytes.asciiSpace", tabData .u8 asciiSpaceTab)) (hj : laid[j]? = some ("unicode.White_Space", whiteData)) : BsTab w := ⟨asc_b (reads_at hL i hi), white (reads_at hL j hj)⟩
theorem u8Tab {laid : List (String × DataW Unit)} {w : World} (hL : laidMet Tryd.prog laid w) (i j : Nat) (hi : laid[i]? = some ("unicode/utf8.first", firstData)) (hj : laid[j]? = some ("unicode/utf8.acceptRanges", acceptData)) : U8Tab w := utf8 (reads_at hL i hi) (reads_at hL j hj)
end Go.Proofs.YtchkjdopoanjdaaDoor.cards
