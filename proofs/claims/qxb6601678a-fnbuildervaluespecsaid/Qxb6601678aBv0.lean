/-
  SMALL LAWS SHARED BY THE WALKS on FnBuilderValueSpec's road.
-/
import Derived.Test.Qxb6601678aPd2
import Derived.Test.Qxb6601678aBvPlain
import Derived.WalkLawsBesides
namespace Go.Proofs.Qxb6601678a.Bv
open Go.RowKit Go.ChangeShapes Go.WideShapes Go.ChangeAt
set_option linter.unusedVariables false

theorem hide {p : Prop} (h : p) : Hid p := h

/-- a float stored into a cell: the kit's laws stop at integers, bools, pointers, slices and strings -/
theorem run_store_float {P : Program} {w : World} {a : Addr} {m : Mode} (k : FloatKind) (b : Nat) : (store a (.float k b) m).run P w = stored P w a (.float k b) m := run_store P w a _ m rfl
/-! ### token lists in memory -/

def tokCells (t : Tok) : List Value := [.int .u8 t.kind, .bool t.attr, .int .i64 t.count, .int .i64 t.frm, .int .i64 t.to, .int .i64 t.integer, .float .f64 t.double, .bool t.boolean]

/-- the fields fit their kinds -/
def TokWf (t : Tok) : Prop :=
  (0 ≤ t.kind ∧ t.kind ≤ 255) ∧ (-9223372036854775808 ≤ t.count ∧ t.count ≤ 9223372036854775807) ∧ (-9223372036854775808 ≤ t.frm ∧ t.frm ≤ 9223372036854775807) ∧ (-9223372036854775808 ≤ t.to ∧ t.to ≤ 9223372036854775807)

/-- from ⟨b, off⟩ on lie the tokens' cells -/
def TokRow (w : World) (b off : Nat) (toks : List Tok) : Prop :=
  ∀ i t, toks[i]? = some t → ∀ j u, (tokCells t)[j]? = some u → w.cell? ⟨b, off + i * 8 + j, none⟩ = some u

theorem TokRow.head {w : World} {b off : Nat} {toks : List Tok} (h : TokRow w b off toks) {i : Nat} {t : Tok} (hi : toks[i]? = some t) :
    w.cell? ⟨b, off + i * 8, none⟩ = some (.int .u8 t.kind) ∧ w.cell? ⟨b, off + i * 8 + 1, none⟩ = some (.bool t.attr) ∧ w.cell? ⟨b, off + i * 8 + 2, none⟩ = some (.int .i64 t.count) ∧ w.cell? ⟨b, off + i * 8 + 3, none⟩ = some (.int .i64 t.frm) ∧
    w.cell? ⟨b, off + i * 8 + 4, none⟩ = some (.int .i64 t.to) ∧ w.cell? ⟨b, off + i * 8 + 5, none⟩ = some (.int .i64 t.integer) ∧ w.cell? ⟨b, off + i * 8 + 6, none⟩ = some (.float .f64 t.double) ∧ w.cell? ⟨b, off + i * 8 + 7, none⟩ = some (.bool t.boolean) :=
  ⟨h i t hi 0 _ rfl, h i t hi 1 _ rfl, h i t hi 2 _ rfl, h i t hi 3 _ rfl, h i t hi 4 _ rfl, h i t hi 5 _ rfl, h i t hi 6 _ rfl, h i t hi 7 _ rfl⟩

theorem TokRow.below {w w' : World} {b off B : Nat} {toks : List Tok} (h : TokRow w b off toks) (hb : Below B w w') (hB : b < B) : TokRow w' b off toks :=
  fun i t hi j u hu => (hb.cell (p := ⟨b, off + i * 8 + j, none⟩) hB).trans (h i t hi j u hu)

theorem wrap_half {c : Int} (h : -9223372036854775808 ≤ c ∧ c ≤ 9223372036854775807) : wrap64 (c.tdiv 2) = c.tdiv 2 := by
  have hb : -9223372036854775808 ≤ c.tdiv 2 ∧ c.tdiv 2 ≤ 9223372036854775807 := by
    by_cases h0 : 0 ≤ c
    · rw [Int.tdiv_eq_ediv_of_nonneg h0]; omega
    · have e : c.tdiv 2 = -((-c) / 2) := by
        have := Int.neg_tdiv (a := -c) (b := 2)
        rw [Int.neg_neg] at this
        rw [this, Int.tdiv_eq_ediv_of_nonneg (by omega)]
      rw [e]; omega
  exact IntWalk.wrap64_in _ hb

theorem half_range {c : Int} (h : -9223372036854775808 ≤ c ∧ c ≤ 9223372036854775807) : -4611686018427387904 ≤ c.tdiv 2 ∧ c.tdiv 2 ≤ 4611686018427387903 := by
  by_cases h0 : 0 ≤ c
  · rw [Int.tdiv_eq_ediv_of_nonneg h0]; omega
  · have e : c.tdiv 2 = -((-c) / 2) := by
      have := Int.neg_tdiv (a := -c) (b := 2)
      rw [Int.neg_neg] at this
      rw [this, Int.tdiv_eq_ediv_of_nonneg (by omega)]
    rw [e]; omega

theorem ret_int {a b : Int} (h : a = b) : Ending.returned (.int .i64 a) = .returned (.int .i64 b) := by rw [h]

theorem drop_at {toks : List Tok} {p : Nat} {t : Tok} (h : toks[p]? = some t) : toks.drop p = t :: toks.drop (p + 1) := by
  obtain ⟨hp, rfl⟩ := List.getElem?_eq_some_iff.1 h
  exact List.drop_eq_getElem_cons hp

theorem kind_text {k : Int} (h : isText k = true) : (k == 13) = false ∧ isSeq k = false ∧ (k == 14) = false := by
  unfold isText at h
  unfold isSeq
  simp at h
  rcases h with (((h | h) | h) | h) | h <;> subst h <;> decide

theorem kind_seq {k : Int} (h : isSeq k = true) : isText k = false ∧ (k == 13) = false ∧ (k == 14) = false := by
  unfold isSeq at h
  unfold isText
  simp at h
  rcases h with (h | h) | h <;> subst h <;> decide

end Go.Proofs.Qxb6601678a.Bv
