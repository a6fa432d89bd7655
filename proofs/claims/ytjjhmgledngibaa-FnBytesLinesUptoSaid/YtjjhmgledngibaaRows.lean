/-
  No cell of these rows narrows 'for every input' (looked for: loops, veiled, ifaces, maps, wideKeys, modest, calm, conditions, laid).
  DERIVED. THE GIVEN ROWS OF THIS SEAT. 5 by the template 'for every input the law returns true; each argument reads behind the call as it read before'; 0 by the template 'total and deterministic' (their statements: YtjjhmgledngibaaTotals.lean).
  GIVEN WITH THE SEED: the statements are not yours to turn. If you find one false, say at which input.
  Laid BY PROGRAM, IN A SANDBOX (cutbox-rows.mjs): the forced cells as the released guide's own fill.sh prints them over the translation 4176f99b008443a6… (all of the seat's roots in one cut). By AI agents, Wed Nov 11 2026. No macro, syntax, notation, axiom, sorry.
-/
import Derived.Test.YtjjhmgledngibaaChecked
import GoSem.Claim
import GoSem.ClaimJoined
import GoSem.ClaimMapViews
import Derived.JoinedTies
import Derived.KernelRfl
namespace Go.Proofs.Ytjjhmgledngibaa
/- THE CELL 'sum', in the pinned program and in every row, IS THE sha256 OF THE DUMP (.gsa) THAT YtjjhmgledngibaaProg.lean LOADS. Nothing in Lean hashes anything: it is a label: what it is worth is what the hold of that sum in a sandbox is worth. -/
noncomputable def Try.pinned : Pinned := { name := "ytjjhmgledngibaa", sum := "4176f99b008443a66062508e1dd961b6ed5873d2a6a906f46598d6a10737fe87", checked := Try.checked }
namespace Rows
def none {H : Type} : Left H := { results := [], args := [] }

/-- 'laws.FnLinesRestore': WHATEVER THE INPUT: true; the input reads as it did. -/
def fnLinesRestoreSpec : ChangeSpec := { name := "fnLinesRestore", fn := fun _ => fun
  | [d] => { results := [.lit (.bool true)], args := [d] }
  | _ => none }
def fnLinesRestoreRow : OpenClaim := { program := "ytjjhmgledngibaa", sum := "4176f99b008443a66062508e1dd961b6ed5873d2a6a906f46598d6a10737fe87", func := "lib-billhook/laws.FnLinesRestore", spec := "fnLinesRestore", inPlace := ["internal/bytealg.IndexByteString"], unfollowed := true, recurses := true, apart := false }
def FnLinesRestoreSaid : Prop := fnLinesRestoreRow.holds Try.pinned (OpenSpec.ofChange fnLinesRestoreSpec)

/-- ITS FALSE NEIGHBOUR: 'it returns false'. Refute it at one input. -/
def fnLinesRestoreWrong : ChangeSpec := { name := "fnLinesRestore", fn := fun _ => fun
  | [d] => { results := [.lit (.bool false)], args := [d] }
  | _ => none }
def FnLinesRestoreWrongFalsely : Prop := fnLinesRestoreRow.holds Try.pinned (OpenSpec.ofChange fnLinesRestoreWrong)

/-- 'laws.FnBytesLines': WHATEVER THE INPUT: true; the input reads as it did. -/
def fnBytesLinesSpec : ChangeSpec := { name := "fnBytesLines", fn := fun _ => fun
  | [d1, d2] => { results := [.lit (.bool true)], args := [d1, d2] }
  | _ => none }
def fnBytesLinesRow : OpenClaim := { program := "ytjjhmgledngibaa", sum := "4176f99b008443a66062508e1dd961b6ed5873d2a6a906f46598d6a10737fe87", func := "lib-billhook/laws.FnBytesLines", spec := "fnBytesLines", inPlace := ["internal/bytealg.IndexByte"], unfollowed := true, recurses := true, apart := false }
def FnBytesLinesSaid : Prop := fnBytesLinesRow.holds Try.pinned (OpenSpec.ofChange fnBytesLinesSpec)

/-- ITS FALSE NEIGHBOUR: 'it returns false'. Refute it at one input. -/
def fnBytesLinesWrong : ChangeSpec := { name := "fnBytesLines", fn := fun _ => fun
  | [d1, d2] => { results := [.lit (.bool false)], args := [d1, d2] }
  | _ => none }
def FnBytesLinesWrongFalsely : Prop := fnBytesLinesRow.holds Try.pinned (OpenSpec.ofChange fnBytesLinesWrong)

/-- 'laws.FnLines': WHATEVER THE INPUT: true; the input reads as it did. -/
def fnLinesSpec : ChangeSpec := { name := "fnLines", fn := fun _ => fun
  | [d1, d2] => { results := [.lit (.bool true)], args := [d1, d2] }
  | _ => none }
def fnLinesRow : OpenClaim := { program := "ytjjhmgledngibaa", sum := "4176f99b008443a66062508e1dd961b6ed5873d2a6a906f46598d6a10737fe87", func := "lib-billhook/laws.FnLines", spec := "fnLines", inPlace := ["internal/bytealg.IndexByteString"], unfollowed := true, recurses := true, apart := false }
def FnLinesSaid : Prop := fnLinesRow.holds Try.pinned (OpenSpec.ofChange fnLinesSpec)

/-- ITS FALSE NEIGHBOUR: 'it returns false'. Refute it at one input. -/
def fnLinesWrong : ChangeSpec := { name := "fnLines", fn := fun _ => fun
  | [d1, d2] => { results := [.lit (.bool false)], args := [d1, d2] }
  | _ => none }
def FnLinesWrongFalsely : Prop := fnLinesRow.holds Try.pinned (OpenSpec.ofChange fnLinesWrong)

/-- 'laws.FnLinesStop': WHATEVER THE INPUT: true; the input reads as it did. -/
def fnLinesStopSpec : ChangeSpec := { name := "fnLinesStop", fn := fun _ => fun
  | [d1, d2] => { results := [.lit (.bool true)], args := [d1, d2] }
  | _ => none }
def fnLinesStopRow : OpenClaim := { program := "ytjjhmgledngibaa", sum := "4176f99b008443a66062508e1dd961b6ed5873d2a6a906f46598d6a10737fe87", func := "lib-billhook/laws.FnLinesStop", spec := "fnLinesStop", inPlace := ["internal/bytealg.IndexByteString"], unfollowed := true, recurses := true, apart := false }
def FnLinesStopSaid : Prop := fnLinesStopRow.holds Try.pinned (OpenSpec.ofChange fnLinesStopSpec)

/-- ITS FALSE NEIGHBOUR: 'it returns false'. Refute it at one input. -/
def fnLinesStopWrong : ChangeSpec := { name := "fnLinesStop", fn := fun _ => fun
  | [d1, d2] => { results := [.lit (.bool false)], args := [d1, d2] }
  | _ => none }
def FnLinesStopWrongFalsely : Prop := fnLinesStopRow.holds Try.pinned (OpenSpec.ofChange fnLinesStopWrong)

/-- 'laws.FnBytesLinesAreStrings': WHATEVER THE INPUT: true; the input reads as it did. -/
def fnBytesLinesAreStringsSpec : ChangeSpec := { name := "fnBytesLinesAreStrings", fn := fun _ => fun
  | [d1, d2] => { results := [.lit (.bool true)], args := [d1, d2] }
  | _ => none }
def fnBytesLinesAreStringsRow : OpenClaim := { program := "ytjjhmgledngibaa", sum := "4176f99b008443a66062508e1dd961b6ed5873d2a6a906f46598d6a10737fe87", func := "lib-billhook/laws.FnBytesLinesAreStrings", spec := "fnBytesLinesAreStrings", inPlace := ["internal/bytealg.IndexByte", "internal/bytealg.IndexByteString"], unfollowed := true, recurses := true, apart := false }
def FnBytesLinesAreStringsSaid : Prop := fnBytesLinesAreStringsRow.holds Try.pinned (OpenSpec.ofChange fnBytesLinesAreStringsSpec)

/-- ITS FALSE NEIGHBOUR: 'it returns false'. Refute it at one input. -/
def fnBytesLinesAreStringsWrong : ChangeSpec := { name := "fnBytesLinesAreStrings", fn := fun _ => fun
  | [d1, d2] => { results := [.lit (.bool false)], args := [d1, d2] }
  | _ => none }
def FnBytesLinesAreStringsWrongFalsely : Prop := fnBytesLinesAreStringsRow.holds Try.pinned (OpenSpec.ofChange fnBytesLinesAreStringsWrong)

/- THE SECOND FORM. 'bulk': how many values and letters a reading holds, each counted each time it is reached (what is shared counts as often as it is met; a slice's spare places count too). A statement '..UptoSaid' is the law's where the arguments, and the package variables that the reading takes, are together of bulk at most 1048576: NARROWER than '..Said'. Prove '..Said' where nothing that the law and all that it calls make is longer than what came in: it says more and counts as full. Else prove '..UptoSaid'. A law counts once. -/
mutual
def uptoBulk {H : Type} : DataW H → Nat
  | .lit (.string bytes) => bytes.length + 1
  | .lit _ => 1
  | .nil => 1
  | .ptr d => uptoBulk d + 1
  | .slice elems spare => uptoBulkAll elems + uptoBulkAll spare + 1
  | .agg parts => uptoBulkAll parts + 1
  | .iface _ d => uptoBulk d + 1
  | .map entries => uptoBulkEntries entries + 1
  | .held _ => 1
def uptoBulkAll {H : Type} : List (DataW H) → Nat
  | [] => 0
  | d :: r => uptoBulk d + uptoBulkAll r
def uptoBulkEntries {H : Type} : List (Lit × DataW H) → Nat
  | [] => 0
  | x :: r => uptoBulkEntry x + uptoBulkEntries r
def uptoBulkEntry {H : Type} : Lit × DataW H → Nat
  | (.string bytes, d) => bytes.length + uptoBulk d + 1
  | (_, d) => uptoBulk d + 1
 end
def uptoSmall : (H : Type) → List (DataW H) → Bool := fun _ ds => decide (uptoBulkAll ds ≤ 1048576)
def OpenSpec.upto (s : _root_.Go.ChangeSpec) : _root_.Go.OpenSpec := { _root_.Go.OpenSpec.ofChange s with cond := some uptoSmall }

/-- 'laws.FnLinesRestore', WHERE WHAT IT READS IS OF BULK AT MOST 1048576: true; the input reads as it did. -/
def fnLinesRestoreUptoRow : OpenClaim := { program := "ytjjhmgledngibaa", sum := "4176f99b008443a66062508e1dd961b6ed5873d2a6a906f46598d6a10737fe87", func := "lib-billhook/laws.FnLinesRestore", spec := "fnLinesRestore", inPlace := ["internal/bytealg.IndexByteString"], unfollowed := true, recurses := true, apart := false, narrowed := true }
def FnLinesRestoreUptoSaid : Prop := fnLinesRestoreUptoRow.holds Try.pinned (OpenSpec.upto fnLinesRestoreSpec)

/-- 'laws.FnBytesLines', WHERE WHAT IT READS IS OF BULK AT MOST 1048576: true; the input reads as it did. -/
def fnBytesLinesUptoRow : OpenClaim := { program := "ytjjhmgledngibaa", sum := "4176f99b008443a66062508e1dd961b6ed5873d2a6a906f46598d6a10737fe87", func := "lib-billhook/laws.FnBytesLines", spec := "fnBytesLines", inPlace := ["internal/bytealg.IndexByte"], unfollowed := true, recurses := true, apart := false, narrowed := true }
def FnBytesLinesUptoSaid : Prop := fnBytesLinesUptoRow.holds Try.pinned (OpenSpec.upto fnBytesLinesSpec)

/-- 'laws.FnLines', WHERE WHAT IT READS IS OF BULK AT MOST 1048576: true; the input reads as it did. -/
def fnLinesUptoRow : OpenClaim := { program := "ytjjhmgledngibaa", sum := "4176f99b008443a66062508e1dd961b6ed5873d2a6a906f46598d6a10737fe87", func := "lib-billhook/laws.FnLines", spec := "fnLines", inPlace := ["internal/bytealg.IndexByteString"], unfollowed := true, recurses := true, apart := false, narrowed := true }
def FnLinesUptoSaid : Prop := fnLinesUptoRow.holds Try.pinned (OpenSpec.upto fnLinesSpec)

/-- 'laws.FnLinesStop', WHERE WHAT IT READS IS OF BULK AT MOST 1048576: true; the input reads as it did. -/
def fnLinesStopUptoRow : OpenClaim := { program := "ytjjhmgledngibaa", sum := "4176f99b008443a66062508e1dd961b6ed5873d2a6a906f46598d6a10737fe87", func := "lib-billhook/laws.FnLinesStop", spec := "fnLinesStop", inPlace := ["internal/bytealg.IndexByteString"], unfollowed := true, recurses := true, apart := false, narrowed := true }
def FnLinesStopUptoSaid : Prop := fnLinesStopUptoRow.holds Try.pinned (OpenSpec.upto fnLinesStopSpec)

/-- 'laws.FnBytesLinesAreStrings', WHERE WHAT IT READS IS OF BULK AT MOST 1048576: true; the input reads as it did. -/
def fnBytesLinesAreStringsUptoRow : OpenClaim := { program := "ytjjhmgledngibaa", sum := "4176f99b008443a66062508e1dd961b6ed5873d2a6a906f46598d6a10737fe87", func := "lib-billhook/laws.FnBytesLinesAreStrings", spec := "fnBytesLinesAreStrings", inPlace := ["internal/bytealg.IndexByte", "internal/bytealg.IndexByteString"], unfollowed := true, recurses := true, apart := false, narrowed := true }
def FnBytesLinesAreStringsUptoSaid : Prop := fnBytesLinesAreStringsUptoRow.holds Try.pinned (OpenSpec.upto fnBytesLinesAreStringsSpec)

end Rows
end Go.Proofs.Ytjjhmgledngibaa
