/-
  Plain laws for FnFieldsComeBack: each white space code point, encoded, is a separator; pieces put together with it come back.
-/
import Derived.Test.YtchkjdopoanjdaaDoorHNPlain
import Derived.Test.YtchkjdopoanjdaaDoorDecode
import Derived.Test.YtchkjdopoanjdaaDoorJoined
import Derived.Laws.Runes
namespace Go.Proofs.YtchkjdopoanjdaaDoor.strs
open Go.Shelf Go.RowKit Go.Lib base sets iters plain runes
set_option linter.unusedVariables false

theorem sep1 (b0 : UInt8) (h0 : b0.toNat < 128) (hp : isSpaceR b0.toNat = true) : Sep isSpaceR [b0] b0.toNat where
  cls := hp
  fresh := fun v => .inr (by simp; omega)
  dec := fun v => by
    have hd : decodeL (b0 :: v) = (b0.toNat, 1) := decodeL_ascii b0 v h0
    rw [List.cons_append, List.nil_append, chars_cons (by simp), hd]
    rfl
theorem sep2 (b0 b1 : UInt8) (r : Nat) (hp : isSpaceR r = true) (h0 : 192 ≤ b0.toNat ∧ b0.toNat < 224) (h1 : 128 ≤ b1.toNat ∧ b1.toNat < 192) (hr : r = (b0.toNat - 192) * 64 + (b1.toNat - 128)) (h : 128 ≤ r) : Sep isSpaceR [b0, b1] r where
  cls := hp
  fresh := fun v => .inr (by simp; omega)
  dec := fun v => by
    have hd : decodeL (b0 :: b1 :: v) = (r, 2) := by
      rw [decodeL_N, hr]
      refine dec2_ok _ _ _ _ _ ?_ (by simp) ?_ (by simp; omega)
      · simpa using h0
      · simpa using h1
    rw [List.cons_append, List.cons_append, List.nil_append, chars_cons (by simp), hd]
    rfl
theorem sep3 (b0 b1 b2 : UInt8) (r : Nat) (hp : isSpaceR r = true) (h0 : 224 ≤ b0.toNat ∧ b0.toNat < 240) (h1 : 128 ≤ b1.toNat ∧ b1.toNat < 192) (h2 : 128 ≤ b2.toNat ∧ b2.toNat < 192) (hr : r = ((b0.toNat - 224) * 64 + (b1.toNat - 128)) * 64 + (b2.toNat - 128)) (h : 2048 ≤ r) (h' : r < 55296) : Sep isSpaceR [b0, b1, b2] r where
  cls := hp
  fresh := fun v => .inr (by simp; omega)
  dec := fun v => by
    have hd : decodeL (b0 :: b1 :: b2 :: v) = (r, 3) := by
      rw [decodeL_N, hr]
      refine dec3_ok _ _ _ _ _ ?_ (by simp) ?_ ?_ (by simp; omega) (.inl (by simp; omega))
      · simpa using h0
      · simpa using h1
      · simpa using h2
    rw [List.cons_append, List.cons_append, List.cons_append, List.nil_append, chars_cons (by simp), hd]
    rfl
/-- A separator of at most four bytes. -/
def IsSep (e : ByteArray) : Prop := (∃ r, Sep isSpaceR e.data.toList r) ∧ e.size ≤ 4
theorem enc9 : IsSep (Utf8.encode 9) := by
  have e : Utf8.encode 9 = ⟨#[9]⟩ := by decide
  rw [e]
  exact ⟨⟨_, sep1 9 (by decide) (by decide)⟩, by decide⟩
theorem enc10 : IsSep (Utf8.encode 10) := by
  have e : Utf8.encode 10 = ⟨#[10]⟩ := by decide
  rw [e]
  exact ⟨⟨_, sep1 10 (by decide) (by decide)⟩, by decide⟩
theorem enc11 : IsSep (Utf8.encode 11) := by
  have e : Utf8.encode 11 = ⟨#[11]⟩ := by decide
  rw [e]
  exact ⟨⟨_, sep1 11 (by decide) (by decide)⟩, by decide⟩
theorem enc12 : IsSep (Utf8.encode 12) := by
  have e : Utf8.encode 12 = ⟨#[12]⟩ := by decide
  rw [e]
  exact ⟨⟨_, sep1 12 (by decide) (by decide)⟩, by decide⟩
theorem enc13 : IsSep (Utf8.encode 13) := by
  have e : Utf8.encode 13 = ⟨#[13]⟩ := by decide
  rw [e]
  exact ⟨⟨_, sep1 13 (by decide) (by decide)⟩, by decide⟩
theorem enc32 : IsSep (Utf8.encode 32) := by
  have e : Utf8.encode 32 = ⟨#[32]⟩ := by decide
  rw [e]
  exact ⟨⟨_, sep1 32 (by decide) (by decide)⟩, by decide⟩
theorem enc133 : IsSep (Utf8.encode 133) := by
  have e : Utf8.encode 133 = ⟨#[194, 133]⟩ := by decide
  rw [e]
  exact ⟨⟨_, sep2 194 133 133 (by decide) (by decide) (by decide) (by decide) (by decide)⟩, by decide⟩
theorem enc160 : IsSep (Utf8.encode 160) := by
  have e : Utf8.encode 160 = ⟨#[194, 160]⟩ := by decide
  rw [e]
  exact ⟨⟨_, sep2 194 160 160 (by decide) (by decide) (by decide) (by decide) (by decide)⟩, by decide⟩
theorem enc5760 : IsSep (Utf8.encode 5760) := by
  have e : Utf8.encode 5760 = ⟨#[225, 154, 128]⟩ := by decide
  rw [e]
  exact ⟨⟨_, sep3 225 154 128 5760 (by decide) (by decide) (by decide) (by decide) (by decide) (by decide) (by decide)⟩, by decide⟩
theorem enc8192 : IsSep (Utf8.encode 8192) := by
  have e : Utf8.encode 8192 = ⟨#[226, 128, 128]⟩ := by decide
  rw [e]
  exact ⟨⟨_, sep3 226 128 128 8192 (by decide) (by decide) (by decide) (by decide) (by decide) (by decide) (by decide)⟩, by decide⟩
theorem enc8193 : IsSep (Utf8.encode 8193) := by
  have e : Utf8.encode 8193 = ⟨#[226, 128, 129]⟩ := by decide
  rw [e]
  exact ⟨⟨_, sep3 226 128 129 8193 (by decide) (by decide) (by decide) (by decide) (by decide) (by decide) (by decide)⟩, by decide⟩
theorem enc8194 : IsSep (Utf8.encode 8194) := by
  have e : Utf8.encode 8194 = ⟨#[226, 128, 130]⟩ := by decide
  rw [e]
  exact ⟨⟨_, sep3 226 128 130 8194 (by decide) (by decide) (by decide) (by decide) (by decide) (by decide) (by decide)⟩, by decide⟩
theorem enc8195 : IsSep (Utf8.encode 8195) := by
  have e : Utf8.encode 8195 = ⟨#[226, 128, 131]⟩ := by decide
  rw [e]
  exact ⟨⟨_, sep3 226 128 131 8195 (by decide) (by decide) (by decide) (by decide) (by decide) (by decide) (by decide)⟩, by decide⟩
theorem enc8196 : IsSep (Utf8.encode 8196) := by
  have e : Utf8.encode 8196 = ⟨#[226, 128, 132]⟩ := by decide
  rw [e]
  exact ⟨⟨_, sep3 226 128 132 8196 (by decide) (by decide) (by decide) (by decide) (by decide) (by decide) (by decide)⟩, by decide⟩
theorem enc8197 : IsSep (Utf8.encode 8197) := by
  have e : Utf8.encode 8197 = ⟨#[226, 128, 133]⟩ := by decide
  rw [e]
  exact ⟨⟨_, sep3 226 128 133 8197 (by decide) (by decide) (by decide) (by decide) (by decide) (by decide) (by decide)⟩, by decide⟩
theorem enc8198 : IsSep (Utf8.encode 8198) := by
  have e : Utf8.encode 8198 = ⟨#[226, 128, 134]⟩ := by decide
  rw [e]
  exact ⟨⟨_, sep3 226 128 134 8198 (by decide) (by decide) (by decide) (by decide) (by decide) (by decide) (by decide)⟩, by decide⟩
theorem enc8199 : IsSep (Utf8.encode 8199) := by
  have e : Utf8.encode 8199 = ⟨#[226, 128, 135]⟩ := by decide
  rw [e]
  exact ⟨⟨_, sep3 226 128 135 8199 (by decide) (by decide) (by decide) (by decide) (by decide) (by decide) (by decide)⟩, by decide⟩
theorem enc8200 : IsSep (Utf8.encode 8200) := by
  have e : Utf8.encode 8200 = ⟨#[226, 128, 136]⟩ := by decide
  rw [e]
  exact ⟨⟨_, sep3 226 128 136 8200 (by decide) (by decide) (by decide) (by decide) (by decide) (by decide) (by decide)⟩, by decide⟩
theorem enc8201 : IsSep (Utf8.encode 8201) := by
  have e : Utf8.encode 8201 = ⟨#[226, 128, 137]⟩ := by decide
  rw [e]
  exact ⟨⟨_, sep3 226 128 137 8201 (by decide) (by decide) (by decide) (by decide) (by decide) (by decide) (by decide)⟩, by decide⟩
theorem enc8202 : IsSep (Utf8.encode 8202) := by
  have e : Utf8.encode 8202 = ⟨#[226, 128, 138]⟩ := by decide
  rw [e]
  exact ⟨⟨_, sep3 226 128 138 8202 (by decide) (by decide) (by decide) (by decide) (by decide) (by decide) (by decide)⟩, by decide⟩
theorem enc8232 : IsSep (Utf8.encode 8232) := by
  have e : Utf8.encode 8232 = ⟨#[226, 128, 168]⟩ := by decide
  rw [e]
  exact ⟨⟨_, sep3 226 128 168 8232 (by decide) (by decide) (by decide) (by decide) (by decide) (by decide) (by decide)⟩, by decide⟩
theorem enc8233 : IsSep (Utf8.encode 8233) := by
  have e : Utf8.encode 8233 = ⟨#[226, 128, 169]⟩ := by decide
  rw [e]
  exact ⟨⟨_, sep3 226 128 169 8233 (by decide) (by decide) (by decide) (by decide) (by decide) (by decide) (by decide)⟩, by decide⟩
theorem enc8239 : IsSep (Utf8.encode 8239) := by
  have e : Utf8.encode 8239 = ⟨#[226, 128, 175]⟩ := by decide
  rw [e]
  exact ⟨⟨_, sep3 226 128 175 8239 (by decide) (by decide) (by decide) (by decide) (by decide) (by decide) (by decide)⟩, by decide⟩
theorem enc8287 : IsSep (Utf8.encode 8287) := by
  have e : Utf8.encode 8287 = ⟨#[226, 129, 159]⟩ := by decide
  rw [e]
  exact ⟨⟨_, sep3 226 129 159 8287 (by decide) (by decide) (by decide) (by decide) (by decide) (by decide) (by decide)⟩, by decide⟩
theorem enc12288 : IsSep (Utf8.encode 12288) := by
  have e : Utf8.encode 12288 = ⟨#[227, 128, 128]⟩ := by decide
  rw [e]
  exact ⟨⟨_, sep3 227 128 128 12288 (by decide) (by decide) (by decide) (by decide) (by decide) (by decide) (by decide)⟩, by decide⟩
theorem sep_of (z : Int) (h : z ∈ spaces) : IsSep (Utf8.encode z) := by
  simp only [spaces, List.mem_cons, List.not_mem_nil, or_false] at h
  rcases h with rfl | rfl | rfl | rfl | rfl | rfl | rfl | rfl | rfl | rfl | rfl | rfl | rfl | rfl | rfl | rfl | rfl | rfl | rfl | rfl | rfl | rfl | rfl | rfl | rfl
  · exact enc9
  · exact enc10
  · exact enc11
  · exact enc12
  · exact enc13
  · exact enc32
  · exact enc133
  · exact enc160
  · exact enc5760
  · exact enc8192
  · exact enc8193
  · exact enc8194
  · exact enc8195
  · exact enc8196
  · exact enc8197
  · exact enc8198
  · exact enc8199
  · exact enc8200
  · exact enc8201
  · exact enc8202
  · exact enc8232
  · exact enc8233
  · exact enc8239
  · exact enc8287
  · exact enc12288

theorem joinL_pre (e a y : List UInt8) (r : List (List UInt8)) : joinL e ((a ++ (e ++ y)) :: r) = a ++ (e ++ joinL e (y :: r)) := by
  cases r with
  | nil => rfl
  | cons z r => simp [joinL, List.append_assoc]
theorem joinFrom_list (sep : ByteArray) : ∀ (r : List ByteArray) (acc : ByteArray), (joinFrom sep acc r).data.toList = joinL sep.data.toList (acc.data.toList :: r.map (·.data.toList))
  | [], acc => rfl
  | x :: r, acc => by
    rw [joinFrom, joinFrom_list sep r, Joins.data_append, Joins.data_append, List.append_assoc, joinL_pre]
    rfl
theorem joinB_list (sep : ByteArray) (xs : List ByteArray) : (joinB sep xs).data.toList = joinL sep.data.toList (xs.map (·.data.toList)) := by
  cases xs with
  | nil => rfl
  | cons x r => exact joinFrom_list sep r x
theorem joinL_len (e : List UInt8) : ∀ xs : List (List UInt8), (joinL e xs).length ≤ total xs + xs.length * e.length
  | [] => by simp [joinL]
  | [x] => by simp [joinL, total]
  | x :: y :: r => by
    have := joinL_len e (y :: r)
    simp only [joinL, List.length_append, total, List.map_cons, List.sum_cons, List.length_cons, Nat.add_mul, Nat.one_mul] at this ⊢
    omega
theorem fields_of_list {s : ByteArray} {xs : List ByteArray} (h : fieldsL isSpaceR s.data.toList = xs.map (·.data.toList)) : goFieldsP isSpaceR s = xs := by
  rw [fields_ba, h, List.map_map]
  exact (List.map_congr_left fun x _ => rfl).trans (List.map_id _)
theorem fields_as_list {s : ByteArray} {xs : List ByteArray} (h : goFieldsP isSpaceR s = xs) : fieldsL isSpaceR s.data.toList = xs.map (·.data.toList) := by
  rw [← fields_eq, h]

/-- What the law builds: its pieces are those of s; and it is not too long. -/
theorem joined_fields (s : ByteArray) {e : ByteArray} (he : IsSep e) : goFieldsP isSpaceR (joinB e (goFieldsP isSpaceR s)) = goFieldsP isSpaceR s ∧ (joinB e (goFieldsP isSpaceR s)).size ≤ s.size + 4 * s.size := by
  obtain ⟨⟨r, hs⟩, h4⟩ := he
  constructor
  · refine fields_of_list ?_
    rw [joinB_list]
    refine join_back hs _ fun x hx => ?_
    obtain ⟨y, hy, rfl⟩ := List.mem_map.1 hx
    exact (piece_of hy).2.2
  · have h1 := joinL_len e.data.toList ((goFieldsP isSpaceR s).map (·.data.toList))
    rw [← joinB_list, List.length_map, ← Lib.size_eq, ← Lib.size_eq] at h1
    have h2 := sizes_all s
    rw [sizes_fields, ← fields_eq] at h2
    have h3 := fields_len isSpaceR s
    have h5 : (goFieldsP isSpaceR s).length * e.size ≤ s.size * 4 := Nat.mul_le_mul h3 h4
    omega
theorem ahead_fields {t e : ByteArray} (he : IsSep e) {xs : List ByteArray} (h : goFieldsP isSpaceR t = xs) : goFieldsP isSpaceR (e ++ t) = xs ∧ (e ++ t).size ≤ t.size + 4 := by
  obtain ⟨⟨r, hs⟩, h4⟩ := he
  refine ⟨fields_of_list ?_, by rw [ByteArray.size_append]; omega⟩
  rw [Joins.data_append, sep_ahead hs]
  exact fields_as_list h
theorem behind_fields {t e : ByteArray} (he : IsSep e) {xs : List ByteArray} (h : goFieldsP isSpaceR t = xs) : goFieldsP isSpaceR (t ++ e) = xs ∧ (t ++ e).size ≤ t.size + 4 := by
  obtain ⟨⟨r, hs⟩, h4⟩ := he
  refine ⟨fields_of_list ?_, by rw [ByteArray.size_append]; omega⟩
  rw [Joins.data_append, sep_behind hs]
  exact fields_as_list h
end Go.Proofs.YtchkjdopoanjdaaDoor.strs
