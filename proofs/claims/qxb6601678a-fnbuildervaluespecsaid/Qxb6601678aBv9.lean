/-
  The kinds as classes; parts of raw.
-/
import Derived.Test.Qxb6601678aBv7
import Derived.Test.Qxb6601678aBv1
namespace Go.Proofs.Qxb6601678a.Bv
open Go.RowKit Go.ChangeShapes Go.WideShapes Go.ChangeAt
set_option linter.unusedVariables false
set_option maxRecDepth 100000

theorem kind_class (k : Int) :
    (isText k = true ∧ (k == 13) = false ∧ (k == 3) = false ∧ (k == 10) = false ∧ (k == 9) = false ∧ isSeq k = false ∧ (k == 14) = false) ∨
    (isText k = false ∧ (k == 13) = true ∧ (k == 3) = false ∧ (k == 10) = false ∧ (k == 9) = false ∧ isSeq k = false ∧ (k == 14) = false) ∨
    (isText k = false ∧ (k == 13) = false ∧ (k == 3) = true ∧ (k == 10) = false ∧ (k == 9) = false ∧ isSeq k = false ∧ (k == 14) = false) ∨
    (isText k = false ∧ (k == 13) = false ∧ (k == 3) = false ∧ (k == 10) = true ∧ (k == 9) = false ∧ isSeq k = false ∧ (k == 14) = false) ∨
    (isText k = false ∧ (k == 13) = false ∧ (k == 3) = false ∧ (k == 10) = false ∧ (k == 9) = true ∧ isSeq k = false ∧ (k == 14) = false) ∨
    (isText k = false ∧ (k == 13) = false ∧ (k == 3) = false ∧ (k == 10) = false ∧ (k == 9) = false ∧ isSeq k = true ∧ (k == 14) = false) ∨
    (isText k = false ∧ (k == 13) = false ∧ (k == 3) = false ∧ (k == 10) = false ∧ (k == 9) = false ∧ isSeq k = false ∧ (k == 14) = true) ∨
    (isText k = false ∧ (k == 13) = false ∧ (k == 3) = false ∧ (k == 10) = false ∧ (k == 9) = false ∧ isSeq k = false ∧ (k == 14) = false) := by
  by_cases h13 : k = 13
  · subst h13; decide
  by_cases h3 : k = 3
  · subst h3; decide
  by_cases h10 : k = 10
  · subst h10; decide
  by_cases h9 : k = 9
  · subst h9; decide
  by_cases h14 : k = 14
  · subst h14; decide
  have b13 : (k == 13) = false := by simpa using h13
  have b3 : (k == 3) = false := by simpa using h3
  have b10 : (k == 10) = false := by simpa using h10
  have b9 : (k == 9) = false := by simpa using h9
  have b14 : (k == 14) = false := by simpa using h14
  rw [b13, b3, b10, b9, b14]
  cases hT : isText k with
  | true => rw [(kind_text hT).2.1]; decide
  | false => cases isSeq k <;> decide

theorem strOfNums_part (rl : List Int) (A O : Nat) : strOfNums ((rl.drop A).take (O - A)) = (strOfNums rl).extract A O := by
  apply ByteArray.ext
  rw [ByteArray.data_extract]
  apply Array.toList_inj.1
  rw [Array.toList_extract, strOfNums_data, strOfNums_data, List.extract_eq_take_drop, List.map_take, List.map_drop]

/-- a part of raw, as a string -/
theorem raw_part {w : World} {g : Nat} {rl : List Int} (hc : ∀ i, i < rl.length → w.cell? ⟨g, i, none⟩ = some (.int .u8 (rl.getD i 0))) {A O cap : Nat} (h1 : A ≤ O) (h2 : O ≤ rl.length) :
    (convert 22 9 (.slice (some ⟨g, A, none⟩) (O - A) cap)).run Try.prog w = .ok (.string ((strOfNums rl).extract A O)) w := by
  rw [← strOfNums_part]
  refine run_convert_bytes_arg w 22 5 Try.underlying22 Try.underlying5 g A (O - A) cap _ (by simp; omega) (fun i hi => ?_) 9 Try.underlying9
  rw [hc (A + i) (by omega)]
  congr 2
  simp [List.getD, hi]

theorem raw_none {w : World} {g off cap : Nat} {rl : List Int} {A : Nat} : (convert 22 9 (.slice (some ⟨g, off, none⟩) 0 cap)).run Try.prog w = .ok (.string ((strOfNums rl).extract A A)) w := by
  rw [← strOfNums_part, Nat.sub_self]
  exact run_convert_bytes_arg w 22 5 Try.underlying22 Try.underlying5 g off 0 cap _ (by simp) (fun i hi => absurd hi (by omega)) 9 Try.underlying9

theorem raw_nil {w : World} {A O : Nat} : (convert 22 9 (.slice none 0 0)).run Try.prog w = .ok (.string ((strOfNums []).extract A O)) w := by
  rw [← strOfNums_part]
  rw [List.drop_nil, List.take_nil]
  exact run_convert_bytes_nil w 22 5 Try.underlying22 Try.underlying5 0 0 9 Try.underlying9

end Go.Proofs.Qxb6601678a.Bv
