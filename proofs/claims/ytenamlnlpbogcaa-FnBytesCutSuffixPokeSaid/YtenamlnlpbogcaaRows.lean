/-
  No cell of these rows narrows 'for every input' (looked for: loops, veiled, ifaces, maps, wideKeys, modest, calm, conditions, laid).
  DERIVED. THE GIVEN ROWS OF THIS SEAT. 9 by the template 'for every input the law returns true; each argument reads behind the call as it read before'; 0 by the template 'total and deterministic' (their statements: YtenamlnlpbogcaaTotals.lean).
  GIVEN WITH THE SEED: the statements are not yours to turn. If you find one false, say at which input.
  Laid BY PROGRAM, IN A SANDBOX (cutbox-rows.mjs): the forced cells as the released guide's own fill.sh prints them over the translation ec536f38131a1af4… (all of the seat's roots in one cut). By AI agents, Wed Nov 11 2026. No macro, syntax, notation, axiom, sorry.
-/
import Derived.Test.YtenamlnlpbogcaaChecked
import GoSem.Claim
import GoSem.ClaimJoined
import GoSem.ClaimMapViews
import Derived.JoinedTies
import Derived.KernelRfl
namespace Go.Proofs.Ytenamlnlpbogcaa
/- THE CELL 'sum', in the pinned program and in every row, IS THE sha256 OF THE DUMP (.gsa) THAT YtenamlnlpbogcaaProg.lean LOADS. Nothing in Lean hashes anything: it is a label: what it is worth is what the hold of that sum in a sandbox is worth. -/
noncomputable def Try.pinned : Pinned := { name := "ytenamlnlpbogcaa", sum := "ec536f38131a1af412842bbcedf789a3e13ae6e036239cba053ec5975f2f3a9f", checked := Try.checked }
namespace Rows
def none {H : Type} : Left H := { results := [], args := [] }

/-- 'laws.FnCutPrefix': WHATEVER THE INPUT: true; the input reads as it did. -/
def fnCutPrefixSpec : ChangeSpec := { name := "fnCutPrefix", fn := fun _ => fun
  | [d1, d2] => { results := [.lit (.bool true)], args := [d1, d2] }
  | _ => none }
def fnCutPrefixRow : OpenClaim := { program := "ytenamlnlpbogcaa", sum := "ec536f38131a1af412842bbcedf789a3e13ae6e036239cba053ec5975f2f3a9f", func := "lib-billhook/laws.FnCutPrefix", spec := "fnCutPrefix", apart := false }
def FnCutPrefixSaid : Prop := fnCutPrefixRow.holds Try.pinned (OpenSpec.ofChange fnCutPrefixSpec)

/-- ITS FALSE NEIGHBOUR: 'it returns false'. Refute it at one input. -/
def fnCutPrefixWrong : ChangeSpec := { name := "fnCutPrefix", fn := fun _ => fun
  | [d1, d2] => { results := [.lit (.bool false)], args := [d1, d2] }
  | _ => none }
def FnCutPrefixWrongFalsely : Prop := fnCutPrefixRow.holds Try.pinned (OpenSpec.ofChange fnCutPrefixWrong)

/-- 'laws.FnCutPrefixRestores': WHATEVER THE INPUT: true; the input reads as it did. -/
def fnCutPrefixRestoresSpec : ChangeSpec := { name := "fnCutPrefixRestores", fn := fun _ => fun
  | [d1, d2] => { results := [.lit (.bool true)], args := [d1, d2] }
  | _ => none }
def fnCutPrefixRestoresRow : OpenClaim := { program := "ytenamlnlpbogcaa", sum := "ec536f38131a1af412842bbcedf789a3e13ae6e036239cba053ec5975f2f3a9f", func := "lib-billhook/laws.FnCutPrefixRestores", spec := "fnCutPrefixRestores", apart := false }
def FnCutPrefixRestoresSaid : Prop := fnCutPrefixRestoresRow.holds Try.pinned (OpenSpec.ofChange fnCutPrefixRestoresSpec)

/-- ITS FALSE NEIGHBOUR: 'it returns false'. Refute it at one input. -/
def fnCutPrefixRestoresWrong : ChangeSpec := { name := "fnCutPrefixRestores", fn := fun _ => fun
  | [d1, d2] => { results := [.lit (.bool false)], args := [d1, d2] }
  | _ => none }
def FnCutPrefixRestoresWrongFalsely : Prop := fnCutPrefixRestoresRow.holds Try.pinned (OpenSpec.ofChange fnCutPrefixRestoresWrong)

/-- 'laws.FnCutSuffix': WHATEVER THE INPUT: true; the input reads as it did. -/
def fnCutSuffixSpec : ChangeSpec := { name := "fnCutSuffix", fn := fun _ => fun
  | [d1, d2] => { results := [.lit (.bool true)], args := [d1, d2] }
  | _ => none }
def fnCutSuffixRow : OpenClaim := { program := "ytenamlnlpbogcaa", sum := "ec536f38131a1af412842bbcedf789a3e13ae6e036239cba053ec5975f2f3a9f", func := "lib-billhook/laws.FnCutSuffix", spec := "fnCutSuffix", apart := false }
def FnCutSuffixSaid : Prop := fnCutSuffixRow.holds Try.pinned (OpenSpec.ofChange fnCutSuffixSpec)

/-- ITS FALSE NEIGHBOUR: 'it returns false'. Refute it at one input. -/
def fnCutSuffixWrong : ChangeSpec := { name := "fnCutSuffix", fn := fun _ => fun
  | [d1, d2] => { results := [.lit (.bool false)], args := [d1, d2] }
  | _ => none }
def FnCutSuffixWrongFalsely : Prop := fnCutSuffixRow.holds Try.pinned (OpenSpec.ofChange fnCutSuffixWrong)

/-- 'laws.FnCutSuffixRestores': WHATEVER THE INPUT: true; the input reads as it did. -/
def fnCutSuffixRestoresSpec : ChangeSpec := { name := "fnCutSuffixRestores", fn := fun _ => fun
  | [d1, d2] => { results := [.lit (.bool true)], args := [d1, d2] }
  | _ => none }
def fnCutSuffixRestoresRow : OpenClaim := { program := "ytenamlnlpbogcaa", sum := "ec536f38131a1af412842bbcedf789a3e13ae6e036239cba053ec5975f2f3a9f", func := "lib-billhook/laws.FnCutSuffixRestores", spec := "fnCutSuffixRestores", apart := false }
def FnCutSuffixRestoresSaid : Prop := fnCutSuffixRestoresRow.holds Try.pinned (OpenSpec.ofChange fnCutSuffixRestoresSpec)

/-- ITS FALSE NEIGHBOUR: 'it returns false'. Refute it at one input. -/
def fnCutSuffixRestoresWrong : ChangeSpec := { name := "fnCutSuffixRestores", fn := fun _ => fun
  | [d1, d2] => { results := [.lit (.bool false)], args := [d1, d2] }
  | _ => none }
def FnCutSuffixRestoresWrongFalsely : Prop := fnCutSuffixRestoresRow.holds Try.pinned (OpenSpec.ofChange fnCutSuffixRestoresWrong)

/-- 'laws.FnBytesCutPrefix': WHATEVER THE INPUT: true; the input reads as it did. -/
def fnBytesCutPrefixSpec : ChangeSpec := { name := "fnBytesCutPrefix", fn := fun _ => fun
  | [d1, d2] => { results := [.lit (.bool true)], args := [d1, d2] }
  | _ => none }
def fnBytesCutPrefixRow : OpenClaim := { program := "ytenamlnlpbogcaa", sum := "ec536f38131a1af412842bbcedf789a3e13ae6e036239cba053ec5975f2f3a9f", func := "lib-billhook/laws.FnBytesCutPrefix", spec := "fnBytesCutPrefix", apart := false }
def FnBytesCutPrefixSaid : Prop := fnBytesCutPrefixRow.holds Try.pinned (OpenSpec.ofChange fnBytesCutPrefixSpec)

/-- ITS FALSE NEIGHBOUR: 'it returns false'. Refute it at one input. -/
def fnBytesCutPrefixWrong : ChangeSpec := { name := "fnBytesCutPrefix", fn := fun _ => fun
  | [d1, d2] => { results := [.lit (.bool false)], args := [d1, d2] }
  | _ => none }
def FnBytesCutPrefixWrongFalsely : Prop := fnBytesCutPrefixRow.holds Try.pinned (OpenSpec.ofChange fnBytesCutPrefixWrong)

/-- 'laws.FnBytesCutSuffix': WHATEVER THE INPUT: true; the input reads as it did. -/
def fnBytesCutSuffixSpec : ChangeSpec := { name := "fnBytesCutSuffix", fn := fun _ => fun
  | [d1, d2] => { results := [.lit (.bool true)], args := [d1, d2] }
  | _ => none }
def fnBytesCutSuffixRow : OpenClaim := { program := "ytenamlnlpbogcaa", sum := "ec536f38131a1af412842bbcedf789a3e13ae6e036239cba053ec5975f2f3a9f", func := "lib-billhook/laws.FnBytesCutSuffix", spec := "fnBytesCutSuffix", apart := false }
def FnBytesCutSuffixSaid : Prop := fnBytesCutSuffixRow.holds Try.pinned (OpenSpec.ofChange fnBytesCutSuffixSpec)

/-- ITS FALSE NEIGHBOUR: 'it returns false'. Refute it at one input. -/
def fnBytesCutSuffixWrong : ChangeSpec := { name := "fnBytesCutSuffix", fn := fun _ => fun
  | [d1, d2] => { results := [.lit (.bool false)], args := [d1, d2] }
  | _ => none }
def FnBytesCutSuffixWrongFalsely : Prop := fnBytesCutSuffixRow.holds Try.pinned (OpenSpec.ofChange fnBytesCutSuffixWrong)

/-- 'laws.FnBytesCutPrefixPoke': WHATEVER THE INPUT: true; the input reads as it did. -/
def fnBytesCutPrefixPokeSpec : ChangeSpec := { name := "fnBytesCutPrefixPoke", fn := fun _ => fun
  | [d1, d2, d3, d4] => { results := [.lit (.bool true)], args := [d1, d2, d3, d4] }
  | _ => none }
def fnBytesCutPrefixPokeRow : OpenClaim := { program := "ytenamlnlpbogcaa", sum := "ec536f38131a1af412842bbcedf789a3e13ae6e036239cba053ec5975f2f3a9f", func := "lib-billhook/laws.FnBytesCutPrefixPoke", spec := "fnBytesCutPrefixPoke", apart := false }
def FnBytesCutPrefixPokeSaid : Prop := fnBytesCutPrefixPokeRow.holds Try.pinned (OpenSpec.ofChange fnBytesCutPrefixPokeSpec)

/-- ITS FALSE NEIGHBOUR: 'it returns false'. Refute it at one input. -/
def fnBytesCutPrefixPokeWrong : ChangeSpec := { name := "fnBytesCutPrefixPoke", fn := fun _ => fun
  | [d1, d2, d3, d4] => { results := [.lit (.bool false)], args := [d1, d2, d3, d4] }
  | _ => none }
def FnBytesCutPrefixPokeWrongFalsely : Prop := fnBytesCutPrefixPokeRow.holds Try.pinned (OpenSpec.ofChange fnBytesCutPrefixPokeWrong)

/-- 'laws.FnBytesCutSuffixPoke': WHATEVER THE INPUT: true; the input reads as it did. -/
def fnBytesCutSuffixPokeSpec : ChangeSpec := { name := "fnBytesCutSuffixPoke", fn := fun _ => fun
  | [d1, d2, d3, d4] => { results := [.lit (.bool true)], args := [d1, d2, d3, d4] }
  | _ => none }
def fnBytesCutSuffixPokeRow : OpenClaim := { program := "ytenamlnlpbogcaa", sum := "ec536f38131a1af412842bbcedf789a3e13ae6e036239cba053ec5975f2f3a9f", func := "lib-billhook/laws.FnBytesCutSuffixPoke", spec := "fnBytesCutSuffixPoke", apart := false }
def FnBytesCutSuffixPokeSaid : Prop := fnBytesCutSuffixPokeRow.holds Try.pinned (OpenSpec.ofChange fnBytesCutSuffixPokeSpec)

/-- ITS FALSE NEIGHBOUR: 'it returns false'. Refute it at one input. -/
def fnBytesCutSuffixPokeWrong : ChangeSpec := { name := "fnBytesCutSuffixPoke", fn := fun _ => fun
  | [d1, d2, d3, d4] => { results := [.lit (.bool false)], args := [d1, d2, d3, d4] }
  | _ => none }
def FnBytesCutSuffixPokeWrongFalsely : Prop := fnBytesCutSuffixPokeRow.holds Try.pinned (OpenSpec.ofChange fnBytesCutSuffixPokeWrong)

/-- 'laws.FnBytesEndsAreStrings': WHATEVER THE INPUT: true; the input reads as it did. -/
def fnBytesEndsAreStringsSpec : ChangeSpec := { name := "fnBytesEndsAreStrings", fn := fun _ => fun
  | [d1, d2] => { results := [.lit (.bool true)], args := [d1, d2] }
  | _ => none }
def fnBytesEndsAreStringsRow : OpenClaim := { program := "ytenamlnlpbogcaa", sum := "ec536f38131a1af412842bbcedf789a3e13ae6e036239cba053ec5975f2f3a9f", func := "lib-billhook/laws.FnBytesEndsAreStrings", spec := "fnBytesEndsAreStrings", apart := false }
def FnBytesEndsAreStringsSaid : Prop := fnBytesEndsAreStringsRow.holds Try.pinned (OpenSpec.ofChange fnBytesEndsAreStringsSpec)

/-- ITS FALSE NEIGHBOUR: 'it returns false'. Refute it at one input. -/
def fnBytesEndsAreStringsWrong : ChangeSpec := { name := "fnBytesEndsAreStrings", fn := fun _ => fun
  | [d1, d2] => { results := [.lit (.bool false)], args := [d1, d2] }
  | _ => none }
def FnBytesEndsAreStringsWrongFalsely : Prop := fnBytesEndsAreStringsRow.holds Try.pinned (OpenSpec.ofChange fnBytesEndsAreStringsWrong)

/- THE SECOND FORM. 'bulk': how many values and letters a reading holds, each counted each time it is reached (what is shared counts as often as it is met; a slice's spare places count too). A statement '..UptoSaid' is the law's where the arguments, and the package variables that the reading takes, are together of bulk at most 1048576: NARROWER than '..Said'. Prove '..Said' where nothing that the law and all that it calls make is longer than what came in: it says more and counts as full. Else prove '..UptoSaid'. A law counts once. -/
mutual
def uptoBulk {H : Type} : DataW H → Nat
  | .lit (.string bytes) => bytes.length + 1
  | .lit _ => 1
  | .nil => 1
  | .ptr d => uptoBulk d + 1
  | .slice elems spare => uptoBulkAll elems + uptoBulkAll spare + 1
  | .agg parts => uptoBulkAll parts + 1
  | .iface _ d => uptoBulk d + 1
  | .map entries => uptoBulkEntries entries + 1
  | .held _ => 1
def uptoBulkAll {H : Type} : List (DataW H) → Nat
  | [] => 0
  | d :: r => uptoBulk d + uptoBulkAll r
def uptoBulkEntries {H : Type} : List (Lit × DataW H) → Nat
  | [] => 0
  | x :: r => uptoBulkEntry x + uptoBulkEntries r
def uptoBulkEntry {H : Type} : Lit × DataW H → Nat
  | (.string bytes, d) => bytes.length + uptoBulk d + 1
  | (_, d) => uptoBulk d + 1
 end
def uptoSmall : (H : Type) → List (DataW H) → Bool := fun _ ds => decide (uptoBulkAll ds ≤ 1048576)
def OpenSpec.upto (s : _root_.Go.ChangeSpec) : _root_.Go.OpenSpec := { _root_.Go.OpenSpec.ofChange s with cond := some uptoSmall }

/-- 'laws.FnCutPrefix', WHERE WHAT IT READS IS OF BULK AT MOST 1048576: true; the input reads as it did. -/
def fnCutPrefixUptoRow : OpenClaim := { program := "ytenamlnlpbogcaa", sum := "ec536f38131a1af412842bbcedf789a3e13ae6e036239cba053ec5975f2f3a9f", func := "lib-billhook/laws.FnCutPrefix", spec := "fnCutPrefix", apart := false, narrowed := true }
def FnCutPrefixUptoSaid : Prop := fnCutPrefixUptoRow.holds Try.pinned (OpenSpec.upto fnCutPrefixSpec)

/-- 'laws.FnCutPrefixRestores', WHERE WHAT IT READS IS OF BULK AT MOST 1048576: true; the input reads as it did. -/
def fnCutPrefixRestoresUptoRow : OpenClaim := { program := "ytenamlnlpbogcaa", sum := "ec536f38131a1af412842bbcedf789a3e13ae6e036239cba053ec5975f2f3a9f", func := "lib-billhook/laws.FnCutPrefixRestores", spec := "fnCutPrefixRestores", apart := false, narrowed := true }
def FnCutPrefixRestoresUptoSaid : Prop := fnCutPrefixRestoresUptoRow.holds Try.pinned (OpenSpec.upto fnCutPrefixRestoresSpec)

/-- 'laws.FnCutSuffix', WHERE WHAT IT READS IS OF BULK AT MOST 1048576: true; the input reads as it did. -/
def fnCutSuffixUptoRow : OpenClaim := { program := "ytenamlnlpbogcaa", sum := "ec536f38131a1af412842bbcedf789a3e13ae6e036239cba053ec5975f2f3a9f", func := "lib-billhook/laws.FnCutSuffix", spec := "fnCutSuffix", apart := false, narrowed := true }
def FnCutSuffixUptoSaid : Prop := fnCutSuffixUptoRow.holds Try.pinned (OpenSpec.upto fnCutSuffixSpec)

/-- 'laws.FnCutSuffixRestores', WHERE WHAT IT READS IS OF BULK AT MOST 1048576: true; the input reads as it did. -/
def fnCutSuffixRestoresUptoRow : OpenClaim := { program := "ytenamlnlpbogcaa", sum := "ec536f38131a1af412842bbcedf789a3e13ae6e036239cba053ec5975f2f3a9f", func := "lib-billhook/laws.FnCutSuffixRestores", spec := "fnCutSuffixRestores", apart := false, narrowed := true }
def FnCutSuffixRestoresUptoSaid : Prop := fnCutSuffixRestoresUptoRow.holds Try.pinned (OpenSpec.upto fnCutSuffixRestoresSpec)

/-- 'laws.FnBytesCutPrefix', WHERE WHAT IT READS IS OF BULK AT MOST 1048576: true; the input reads as it did. -/
def fnBytesCutPrefixUptoRow : OpenClaim := { program := "ytenamlnlpbogcaa", sum := "ec536f38131a1af412842bbcedf789a3e13ae6e036239cba053ec5975f2f3a9f", func := "lib-billhook/laws.FnBytesCutPrefix", spec := "fnBytesCutPrefix", apart := false, narrowed := true }
def FnBytesCutPrefixUptoSaid : Prop := fnBytesCutPrefixUptoRow.holds Try.pinned (OpenSpec.upto fnBytesCutPrefixSpec)

/-- 'laws.FnBytesCutSuffix', WHERE WHAT IT READS IS OF BULK AT MOST 1048576: true; the input reads as it did. -/
def fnBytesCutSuffixUptoRow : OpenClaim := { program := "ytenamlnlpbogcaa", sum := "ec536f38131a1af412842bbcedf789a3e13ae6e036239cba053ec5975f2f3a9f", func := "lib-billhook/laws.FnBytesCutSuffix", spec := "fnBytesCutSuffix", apart := false, narrowed := true }
def FnBytesCutSuffixUptoSaid : Prop := fnBytesCutSuffixUptoRow.holds Try.pinned (OpenSpec.upto fnBytesCutSuffixSpec)

/-- 'laws.FnBytesCutPrefixPoke', WHERE WHAT IT READS IS OF BULK AT MOST 1048576: true; the input reads as it did. -/
def fnBytesCutPrefixPokeUptoRow : OpenClaim := { program := "ytenamlnlpbogcaa", sum := "ec536f38131a1af412842bbcedf789a3e13ae6e036239cba053ec5975f2f3a9f", func := "lib-billhook/laws.FnBytesCutPrefixPoke", spec := "fnBytesCutPrefixPoke", apart := false, narrowed := true }
def FnBytesCutPrefixPokeUptoSaid : Prop := fnBytesCutPrefixPokeUptoRow.holds Try.pinned (OpenSpec.upto fnBytesCutPrefixPokeSpec)

/-- 'laws.FnBytesCutSuffixPoke', WHERE WHAT IT READS IS OF BULK AT MOST 1048576: true; the input reads as it did. -/
def fnBytesCutSuffixPokeUptoRow : OpenClaim := { program := "ytenamlnlpbogcaa", sum := "ec536f38131a1af412842bbcedf789a3e13ae6e036239cba053ec5975f2f3a9f", func := "lib-billhook/laws.FnBytesCutSuffixPoke", spec := "fnBytesCutSuffixPoke", apart := false, narrowed := true }
def FnBytesCutSuffixPokeUptoSaid : Prop := fnBytesCutSuffixPokeUptoRow.holds Try.pinned (OpenSpec.upto fnBytesCutSuffixPokeSpec)

/-- 'laws.FnBytesEndsAreStrings', WHERE WHAT IT READS IS OF BULK AT MOST 1048576: true; the input reads as it did. -/
def fnBytesEndsAreStringsUptoRow : OpenClaim := { program := "ytenamlnlpbogcaa", sum := "ec536f38131a1af412842bbcedf789a3e13ae6e036239cba053ec5975f2f3a9f", func := "lib-billhook/laws.FnBytesEndsAreStrings", spec := "fnBytesEndsAreStrings", apart := false, narrowed := true }
def FnBytesEndsAreStringsUptoSaid : Prop := fnBytesEndsAreStringsUptoRow.holds Try.pinned (OpenSpec.upto fnBytesEndsAreStringsSpec)

end Rows
end Go.Proofs.Ytenamlnlpbogcaa
