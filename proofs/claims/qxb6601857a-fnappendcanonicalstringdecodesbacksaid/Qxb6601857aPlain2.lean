/-
  PLAIN LAWS OF THE CANONICAL SPELLING (2): where each byte's spelling lies in the text.
-/
import Derived.Test.Qxb6601857aPlain
namespace Go.Proofs.Qxb6601857a.Plain

theorem take_drop_at (xs : List Int) (k : Nat) (h : k < xs.length) : xs = xs.take k ++ (xs.getD k 0 :: xs.drop (k + 1)) := by
  have : xs.getD k 0 :: xs.drop (k + 1) = xs.drop k := by
    rw [List.drop_eq_getElem_cons h]
    simp [List.getD, h]
  rw [this, List.take_append_drop]

theorem body_at (xs : List Int) (k : Nat) (h : k < xs.length) : body xs = body (xs.take k) ++ (esc (xs.getD k 0) ++ body (xs.drop (k + 1))) := by
  have e := congrArg body (take_drop_at xs k h)
  rw [body_append] at e
  exact e

theorem take_snoc (xs : List Int) (k : Nat) (h : k < xs.length) : xs.take (k + 1) = xs.take k ++ [xs.getD k 0] := by
  rw [List.take_succ_eq_append_getElem h]
  simp [List.getD, h]

theorem body_next (xs : List Int) (k : Nat) (h : k < xs.length) : (body (xs.take (k + 1))).length = (body (xs.take k)).length + (esc (xs.getD k 0)).length := by
  rw [take_snoc xs k h, body_append]
  simp [body]

theorem body_bound (xs : List Int) (k : Nat) (h : k < xs.length) : (body (xs.take k)).length + (esc (xs.getD k 0)).length ≤ (body xs).length := by
  rw [body_at xs k h]
  simp

theorem canon_at (xs : List Int) (k m : Nat) (h : k < xs.length) (hm : m < (esc (xs.getD k 0)).length) : (canon xs).getD (1 + (body (xs.take k)).length + m) 0 = (esc (xs.getD k 0)).getD m 0 := by
  have e : canon xs = (34 :: body (xs.take k)) ++ (esc (xs.getD k 0) ++ (body (xs.drop (k + 1)) ++ [34])) := by
    unfold canon
    rw [body_at xs k h]
    simp
  rw [e]
  generalize esc (xs.getD k 0) = y at *
  simp only [List.getD]
  rw [List.getElem?_append_right (by simp; omega)]
  rw [show 1 + (body (xs.take k)).length + m - (34 :: body (xs.take k)).length = m by simp; omega]
  rw [List.getElem?_append_left hm]

theorem canon_first (xs : List Int) : (canon xs).getD 0 0 = 34 := rfl

theorem canon_last (xs : List Int) : (canon xs).getD (1 + (body xs).length) 0 = 34 := by
  have e : canon xs = (34 :: body xs) ++ [34] := rfl
  rw [e]
  simp only [List.getD]
  rw [List.getElem?_append_right (by simp; omega)]
  rw [show 1 + (body xs).length - (34 :: body xs).length = 0 by simp; omega]
  rfl

theorem canon_length (xs : List Int) : (canon xs).length = (body xs).length + 2 := by simp [canon]

end Go.Proofs.Qxb6601857a.Plain
