/-
  The listed tables, as the contracts ask for them, and that they stay.
-/
import Derived.Test.YtchkjdopoanjdaaDoorShelf
import Derived.Test.YtchkjdopoanjdaaDoorRow
import Derived.Lib.LaidU8
import Derived.Lib.Hide
namespace Go.Proofs.YtchkjdopoanjdaaDoor.iters
open Go.Shelf Go.RowKit Go.Lib
set_option linter.unusedVariables false

theorem tabIs_below {P : Program} {w w' : World} {n : String} {k : IntKind} {zs : List Int} (h : TabIs P w n k zs) (hb : Below w.heap.size w w') : TabIs P w' n k zs := by
  unfold TabIs World.var? at *
  cases hg : P.globalNamed n with
  | none => rw [hg] at h; cases h
  | some g =>
    rw [hg] at h
    simp only [Option.bind_some] at h ⊢
    have hlt : g < w.heap.size := by
      by_cases hl : g < w.heap.size
      · exact hl
      · rw [Array.getElem?_eq_none (by omega)] at h; cases h
    rw [hb.block g hlt]
    exact h
theorem utf8_below {g3 g4 : Nat} {w w' : World} (h : Utf8Tabs g3 g4 w) (hb : Below w.heap.size w w') : Utf8Tabs g3 g4 w' :=
  ⟨fun c hc => (hb.cell (p := ⟨g3, c, none⟩) (World.block_lt_of_cell? w _ (h.1 c hc))).trans (h.1 c hc),
   fun i hi => ⟨(hb.cell (p := ⟨g4, 2 * i, none⟩) (World.block_lt_of_cell? w _ (h.2 i hi).1)).trans (h.2 i hi).1, (hb.cell (p := ⟨g4, 2 * i + 1, none⟩) (World.block_lt_of_cell? w _ (h.2 i hi).2)).trans (h.2 i hi).2⟩⟩

/-- What strings.Fields asks. -/
def SpTab (w : World) : Prop := TabIs Tryd.prog w "strings.asciiSpace" .u8 asciiSpaceTab ∧ WhiteTab 2 w
theorem SpTab.below {w w' : World} (h : SpTab w) (hb : Below w.heap.size w w') : SpTab w' := ⟨tabIs_below h.1 hb, WhiteTab_below h.2 hb⟩
def U8Tab (w : World) : Prop := Utf8Tabs 3 4 w
theorem U8Tab.below {w w' : World} (h : U8Tab w) (hb : Below w.heap.size w w') : U8Tab w' := utf8_below h hb
def BsTab (w : World) : Prop := TabIs Tryd.prog w "bytes.asciiSpace" .u8 asciiSpaceTab ∧ WhiteTab 2 w
theorem BsTab.below {w w' : World} (h : BsTab w) (hb : Below w.heap.size w w') : BsTab w' := ⟨tabIs_below h.1 hb, WhiteTab_below h.2 hb⟩

theorem tabIs_of_reads {P : Program} {w : World} {name : String} {k : IntKind} {zs : List Int} {g : Nat} {t e : TypeId} {n : Nat} (h : VarReads P w name (tabData k zs))
    (hg : P.globalNamed name = some g) (hty : (P.globals[g]?).map (·.type) = some t) (ht : P.underlying t = some (.array n e)) (he : P.underlying e = some (.int k)) (hce : P.cellsOf e = 1) (hct : P.cellsOf t = n) : TabIs P w name k zs := by
  obtain ⟨g', t', cs, fuel, p, hg', ht', hvar, hd⟩ := h
  obtain rfl := Option.some.inj (hg.symm.trans hg')
  obtain rfl := Option.some.inj (hty.symm.trans ht')
  unfold TabIs
  rw [hvar, ← cells_of_tab ht he hce hct hd]

theorem reads_at {w : World} {l : List (String × DataW Unit)} (h : laidMet Tryd.prog l w) (i : Nat) {n : String} {d : DataW Unit} (hi : l[i]? = some (n, d)) : VarReads Tryd.prog w n d := laidMet.reads h (List.mem_of_getElem? hi)
theorem asc_s {w : World} (h : VarReads Tryd.prog w "strings.asciiSpace" (tabData .u8 asciiSpaceTab)) : TabIs Tryd.prog w "strings.asciiSpace" .u8 asciiSpaceTab :=
  tabIs_of_reads (g := 0) h (by kernel_rfl) (by kernel_rfl) (Tryd.underlying70) (Tryd.underlying5) (by kernel_rfl) (by kernel_rfl)
theorem asc_b {w : World} (h : VarReads Tryd.prog w "bytes.asciiSpace" (tabData .u8 asciiSpaceTab)) : TabIs Tryd.prog w "bytes.asciiSpace" .u8 asciiSpaceTab :=
  tabIs_of_reads (g := 1) h (by kernel_rfl) (by kernel_rfl) (Tryd.underlying70) (Tryd.underlying5) (by kernel_rfl) (by kernel_rfl)
theorem white {w : World} (h : VarReads Tryd.prog w "unicode.White_Space" whiteData) : WhiteTab 2 w :=
  whiteTab_of_reads Tryd.lays199 ⟨by kernel_rfl, by kernel_rfl, by kernel_rfl, by kernel_rfl, by kernel_rfl, by kernel_rfl, by kernel_rfl, by kernel_rfl⟩ h
theorem utf8 {w : World} (h3 : VarReads Tryd.prog w "unicode/utf8.first" firstData) (h4 : VarReads Tryd.prog w "unicode/utf8.acceptRanges" acceptData) : U8Tab w :=
  utf8Tabs_of_reads Tryd.lays260 ⟨by kernel_rfl, by kernel_rfl, by kernel_rfl, by kernel_rfl, by kernel_rfl, by kernel_rfl, by kernel_rfl⟩ h3 h4
end Go.Proofs.YtchkjdopoanjdaaDoor.iters
