/-
  What all frames of this seat share: how an argument lies in memory, and what the bounds on the input give.
-/
import Derived.Test.YtchkjdopoanjdaaDoorRows
import Derived.ProofKit
import Derived.SizedLaws
import Derived.Shelf.Bytes.SlEqualAll
namespace Go.Proofs.YtchkjdopoanjdaaDoor.base
open Go.ChangeShapes Go.WideShapes Go.ChangeAt Go.RowKit
set_option linter.unusedVariables false

theorem own : ownKnob Tryd.prog.godebug = none := by kernel_rfl
theorem laidOut : laidOutB Tryd.prog = true := by kernel_rfl

/-- A slice of integers that came in: nil; or a row of 'cap' cells that hold the numbers zs (the first 'len' are its elements). -/
def IsRow (k : IntKind) (w : World) (a : Option Addr) (len cap : Nat) (zs : List Int) : Prop :=
  (a = none ∧ len = 0 ∧ cap = 0 ∧ zs = []) ∨
  ∃ x, a = some x ∧ len ≤ cap ∧ cap ≤ maxLen ∧ zs.length = cap ∧ (∀ i, i < zs.length → w.cell? (x.add i) = some (.int k (zs.getD i 0))) ∧ ∀ n ∈ zs, (Lit.int k n).wf = true

/-- Its bytes, in the shelf's words. -/
theorem opened {w : World} {a : Option Addr} {len cap : Nat} {zs : List Int} (h : IsRow .u8 w a len cap zs) : ∃ xs : List Int, xs.length = len ∧ len ≤ cap ∧ cap ≤ maxLen ∧ Lib.BytesIn w a len xs ∧ ∀ x ∈ xs, 0 ≤ x ∧ x ≤ 255 := by
  rcases h with ⟨rfl, rfl, rfl, rfl⟩ | ⟨x, rfl, hl, hm, hz, hcell, hwf⟩
  · exact ⟨[], rfl, Nat.le_refl _, Nat.zero_le _, Lib.BytesIn.nil _ _ _, fun x hx => by cases hx⟩
  · refine ⟨zs.take len, by simp; omega, hl, hm, Lib.BytesIn.of_cells fun i hi => ?_, fun x hx => ?_⟩
    · rw [hcell i (by omega)]
      simp [List.getD, hi]
    · have := hwf x (List.mem_of_mem_take hx)
      simpa [Lit.wf, IntKind.min, IntKind.max, IntKind.signed, IntKind.bits] using this

theorem sized_row {H : Type} {P : Program} {ts : List TypeId} {ds : List (DataW H)} {k : IntKind} {j : Nat} {t e : TypeId} {zs : List Int} {len cap : Nat} (h : (DataW.weightsEach P ts ds).all (· ≤ reachBytes) = true)
    (ht : ts[j]? = some t) (hd : ds[j]? = some (.slice (lits k (zs.take len)) (lits k (zs.drop len)))) (hu : P.underlying t = some (.slice e)) (h1 : P.bytesOf e = 1) (hl : len ≤ cap) (hz : zs.length = cap) : cap ≤ 140737488351232 := by
  have := sized_slice h ht hd hu
  rw [h1] at this
  simp only [lits, List.length_map, List.length_take, List.length_drop, Nat.mul_one] at this
  have e : reachBytes = 140737488351232 := rfl
  omega

theorem one_le {H : Type} (d : DataW H) : 1 ≤ Rows.uptoBulk d := by
  cases d with
  | lit l => cases l <;> simp [Rows.uptoBulk]
  | nil => simp [Rows.uptoBulk]
  | ptr d => simp [Rows.uptoBulk]
  | slice elems spare => simp [Rows.uptoBulk]
  | agg parts => simp [Rows.uptoBulk]
  | iface t d => simp [Rows.uptoBulk]
  | map entries => simp [Rows.uptoBulk]
  | held h => simp [Rows.uptoBulk]
theorem part_le {H : Type} {d : DataW H} {l : List (DataW H)} (h : d ∈ l) : Rows.uptoBulk d ≤ Rows.uptoBulkAll l := by
  induction l with
  | nil => cases h
  | cons x r ih =>
    simp only [Rows.uptoBulkAll]
    cases List.mem_cons.1 h with
    | inl e => subst e; omega
    | inr e => have := ih e; omega
theorem length_le {H : Type} (l : List (DataW H)) : l.length ≤ Rows.uptoBulkAll l := by
  induction l with
  | nil => simp [Rows.uptoBulkAll]
  | cons x r ih => have := one_le x; simp only [Rows.uptoBulkAll, List.length_cons]; omega
theorem bound {H : Type} {l : List (DataW H)} (hk : Rows.uptoSmall H l = true) : Rows.uptoBulkAll l ≤ 1048576 := of_decide_eq_true hk
theorem bulk_string {H : Type} {bytes : List UInt8} {n : Nat} (h : Rows.uptoBulk (DataW.lit (H := H) (.string bytes)) ≤ n) : bytes.length ≤ n := by
  simp only [Rows.uptoBulk] at h; omega
theorem bulk_row {H : Type} {k : IntKind} {zs : List Int} {len cap n : Nat} (hl : len ≤ cap) (hz : zs.length = cap) (h : Rows.uptoBulk (DataW.slice (H := H) (lits k (zs.take len)) (lits k (zs.drop len))) ≤ n) : cap ≤ n := by
  simp only [Rows.uptoBulk] at h
  have h1 := length_le (lits (H := H) k (zs.take len))
  have h2 := length_le (lits (H := H) k (zs.drop len))
  simp only [lits, List.length_map, List.length_take, List.length_drop] at h1 h2
  simp only [lits] at h
  omega
theorem bulk_fst {H : Type} {x y : DataW H} {n : Nat} (h : Rows.uptoBulk (DataW.agg [x, y]) ≤ n) : Rows.uptoBulk x ≤ n := by
  simp only [Rows.uptoBulk, Rows.uptoBulkAll] at h; omega
end Go.Proofs.YtchkjdopoanjdaaDoor.base
