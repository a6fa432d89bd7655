/-
  No cell of these rows narrows 'for every input' (looked for: loops, veiled, ifaces, maps, wideKeys, modest, calm, conditions, laid).
  DERIVED. THE GIVEN ROWS OF THIS SEAT. 2 by the template 'for every input the law returns true; each argument reads behind the call as it read before'; 0 by the template 'total and deterministic' (their statements: YtchkjdopoanjdaaTotals.lean).
  GIVEN WITH THE SEED: the statements are not yours to turn. If you find one false, say at which input.
  Laid BY PROGRAM, IN A SANDBOX (cutbox-rows.mjs): the forced cells as the released guide's own fill.sh prints them over the translation 4a5f7ace225edc93… (all of the seat's roots in one cut). By AI agents, Wed Nov 11 2026. No macro, syntax, notation, axiom, sorry.
-/
import Derived.Test.YtchkjdopoanjdaaChecked
import GoSem.Claim
import GoSem.ClaimJoined
import GoSem.ClaimMapViews
import Derived.JoinedTies
import Derived.KernelRfl
namespace Go.Proofs.Ytchkjdopoanjdaa
/- THE CELL 'sum', in the pinned program and in every row, IS THE sha256 OF THE DUMP (.gsa) THAT YtchkjdopoanjdaaProg.lean LOADS. Nothing in Lean hashes anything: it is a label: what it is worth is what the hold of that sum in a sandbox is worth. -/
noncomputable def Try.pinned : Pinned := { name := "ytchkjdopoanjdaa", sum := "4a5f7ace225edc93784086b04e4ccfbf208a3439ca2be5ae52737b5785881aad", checked := Try.checked }
namespace Rows
def none {H : Type} : Left H := { results := [], args := [] }

/-- 'laws.FnFieldsFunc': WHATEVER THE INPUT: true; the input reads as it did. -/
def fnFieldsFuncSpec : ChangeSpec := { name := "fnFieldsFunc", fn := fun _ => fun
  | [d1, d2] => { results := [.lit (.bool true)], args := [d1, d2] }
  | _ => none }
def fnFieldsFuncRow : OpenClaim := { program := "ytchkjdopoanjdaa", sum := "4a5f7ace225edc93784086b04e4ccfbf208a3439ca2be5ae52737b5785881aad", func := "lib-billhook/laws.FnFieldsFunc", spec := "fnFieldsFunc", unfollowed := true, recurses := true, apart := false }
def FnFieldsFuncSaid : Prop := fnFieldsFuncRow.holds Try.pinned (OpenSpec.ofChange fnFieldsFuncSpec)

/-- ITS FALSE NEIGHBOUR: 'it returns false'. Refute it at one input. -/
def fnFieldsFuncWrong : ChangeSpec := { name := "fnFieldsFunc", fn := fun _ => fun
  | [d1, d2] => { results := [.lit (.bool false)], args := [d1, d2] }
  | _ => none }
def FnFieldsFuncWrongFalsely : Prop := fnFieldsFuncRow.holds Try.pinned (OpenSpec.ofChange fnFieldsFuncWrong)

/-- 'laws.FnFieldsFuncAndOthers': WHATEVER THE INPUT: true; the input reads as it did. -/
def fnFieldsFuncAndOthersSpec : ChangeSpec := { name := "fnFieldsFuncAndOthers", fn := fun _ => fun
  | [d1, d2] => { results := [.lit (.bool true)], args := [d1, d2] }
  | _ => none }
def fnFieldsFuncAndOthersRow : OpenClaim := { program := "ytchkjdopoanjdaa", sum := "4a5f7ace225edc93784086b04e4ccfbf208a3439ca2be5ae52737b5785881aad", func := "lib-billhook/laws.FnFieldsFuncAndOthers", spec := "fnFieldsFuncAndOthers", unfollowed := true, recurses := true, apart := false }
def FnFieldsFuncAndOthersSaid : Prop := fnFieldsFuncAndOthersRow.holds Try.pinned (OpenSpec.ofChange fnFieldsFuncAndOthersSpec)

/-- ITS FALSE NEIGHBOUR: 'it returns false'. Refute it at one input. -/
def fnFieldsFuncAndOthersWrong : ChangeSpec := { name := "fnFieldsFuncAndOthers", fn := fun _ => fun
  | [d1, d2] => { results := [.lit (.bool false)], args := [d1, d2] }
  | _ => none }
def FnFieldsFuncAndOthersWrongFalsely : Prop := fnFieldsFuncAndOthersRow.holds Try.pinned (OpenSpec.ofChange fnFieldsFuncAndOthersWrong)

/- THE SECOND FORM. 'bulk': how many values and letters a reading holds, each counted each time it is reached (what is shared counts as often as it is met; a slice's spare places count too). A statement '..UptoSaid' is the law's where the arguments, and the package variables that the reading takes, are together of bulk at most 1048576: NARROWER than '..Said'. Prove '..Said' where nothing that the law and all that it calls make is longer than what came in: it says more and counts as full. Else prove '..UptoSaid'. A law counts once. -/
mutual
def uptoBulk {H : Type} : DataW H → Nat
  | .lit (.string bytes) => bytes.length + 1
  | .lit _ => 1
  | .nil => 1
  | .ptr d => uptoBulk d + 1
  | .slice elems spare => uptoBulkAll elems + uptoBulkAll spare + 1
  | .agg parts => uptoBulkAll parts + 1
  | .iface _ d => uptoBulk d + 1
  | .map entries => uptoBulkEntries entries + 1
  | .held _ => 1
def uptoBulkAll {H : Type} : List (DataW H) → Nat
  | [] => 0
  | d :: r => uptoBulk d + uptoBulkAll r
def uptoBulkEntries {H : Type} : List (Lit × DataW H) → Nat
  | [] => 0
  | x :: r => uptoBulkEntry x + uptoBulkEntries r
def uptoBulkEntry {H : Type} : Lit × DataW H → Nat
  | (.string bytes, d) => bytes.length + uptoBulk d + 1
  | (_, d) => uptoBulk d + 1
 end
def uptoSmall : (H : Type) → List (DataW H) → Bool := fun _ ds => decide (uptoBulkAll ds ≤ 1048576)
def OpenSpec.upto (s : _root_.Go.ChangeSpec) : _root_.Go.OpenSpec := { _root_.Go.OpenSpec.ofChange s with cond := some uptoSmall }

/-- 'laws.FnFieldsFunc', WHERE WHAT IT READS IS OF BULK AT MOST 1048576: true; the input reads as it did. -/
def fnFieldsFuncUptoRow : OpenClaim := { program := "ytchkjdopoanjdaa", sum := "4a5f7ace225edc93784086b04e4ccfbf208a3439ca2be5ae52737b5785881aad", func := "lib-billhook/laws.FnFieldsFunc", spec := "fnFieldsFunc", unfollowed := true, recurses := true, apart := false, narrowed := true }
def FnFieldsFuncUptoSaid : Prop := fnFieldsFuncUptoRow.holds Try.pinned (OpenSpec.upto fnFieldsFuncSpec)

/-- 'laws.FnFieldsFuncAndOthers', WHERE WHAT IT READS IS OF BULK AT MOST 1048576: true; the input reads as it did. -/
def fnFieldsFuncAndOthersUptoRow : OpenClaim := { program := "ytchkjdopoanjdaa", sum := "4a5f7ace225edc93784086b04e4ccfbf208a3439ca2be5ae52737b5785881aad", func := "lib-billhook/laws.FnFieldsFuncAndOthers", spec := "fnFieldsFuncAndOthers", unfollowed := true, recurses := true, apart := false, narrowed := true }
def FnFieldsFuncAndOthersUptoSaid : Prop := fnFieldsFuncAndOthersUptoRow.holds Try.pinned (OpenSpec.upto fnFieldsFuncAndOthersSpec)

end Rows
end Go.Proofs.Ytchkjdopoanjdaa
