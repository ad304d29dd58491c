/-
  PLAIN LAWS OF THE CANONICAL SPELLING (no Go in sight).
-/
namespace Go.Proofs.Qxb6601857a.Plain

def hexd (n : Int) : Int := if n < 10 then 48 + n else 87 + n

/-- the spelling of one byte -/
def esc (c : Int) : List Int :=
  if c = 34 then [92, 34] else if c = 92 then [92, 92] else if c = 8 then [92, 98] else if c = 12 then [92, 102] else if c = 10 then [92, 110] else if c = 13 then [92, 114] else if c = 9 then [92, 116]
  else if c < 32 then [92, 117, 48, 48, hexd (c / 16), hexd (c % 16)] else [c]

theorem esc_34 {c : Int} (h : c = 34) : esc c = [92, c] := by subst h; rfl
theorem esc_92 {c : Int} (h : c = 92) : esc c = [92, c] := by subst h; rfl
theorem esc_8 {c : Int} (h : c = 8) : esc c = [92, 98] := by subst h; rfl
theorem esc_12 {c : Int} (h : c = 12) : esc c = [92, 102] := by subst h; rfl
theorem esc_10 {c : Int} (h : c = 10) : esc c = [92, 110] := by subst h; rfl
theorem esc_13 {c : Int} (h : c = 13) : esc c = [92, 114] := by subst h; rfl
theorem esc_9 {c : Int} (h : c = 9) : esc c = [92, 116] := by subst h; rfl
theorem esc_low {c : Int} (h8 : c ≠ 8) (h12 : c ≠ 12) (h10 : c ≠ 10) (h13 : c ≠ 13) (h9 : c ≠ 9) (h : c < 32) : esc c = [92, 117, 48, 48, hexd (c / 16), hexd (c % 16)] := by
  unfold esc
  rw [if_neg (by omega), if_neg (by omega), if_neg h8, if_neg h12, if_neg h10, if_neg h13, if_neg h9, if_pos h]
theorem esc_self {c : Int} (h34 : c ≠ 34) (h92 : c ≠ 92) (h : 32 ≤ c) : esc c = [c] := by
  unfold esc
  rw [if_neg h34, if_neg h92, if_neg (by omega), if_neg (by omega), if_neg (by omega), if_neg (by omega), if_neg (by omega), if_neg (by omega)]

def body : List Int → List Int
  | [] => []
  | c :: cs => esc c ++ body cs

def canon (s : List Int) : List Int := 34 :: (body s ++ [34])

theorem body_append (a b : List Int) : body (a ++ b) = body a ++ body b := by
  induction a with
  | nil => rfl
  | cons c cs ih => simp [body, ih]

theorem esc_len (c : Int) : 1 ≤ (esc c).length ∧ (esc c).length ≤ 6 := by
  unfold esc
  repeat (split; · simp)
  simp

theorem body_len (s : List Int) : s.length ≤ (body s).length ∧ (body s).length ≤ 6 * s.length := by
  induction s with
  | nil => simp [body]
  | cons c cs ih =>
    have := esc_len c
    simp [body]
    omega

theorem canon_len (s : List Int) : s.length + 2 ≤ (canon s).length ∧ (canon s).length ≤ 6 * s.length + 2 := by
  have := body_len s
  simp [canon]
  omega

def plainB (c : Int) : Bool := !(decide (c < 32) || (c == 34) || (c == 92))

theorem esc_plain (c : Int) : (esc c).length = 1 ↔ plainB c = true := by
  unfold esc plainB
  by_cases h1 : c = 34
  · simp [h1]
  by_cases h2 : c = 92
  · simp [h2]
  rw [if_neg h1, if_neg h2]
  by_cases h3 : c = 8
  · simp [h3]
  by_cases h4 : c = 12
  · simp [h4]
  by_cases h5 : c = 10
  · simp [h5]
  by_cases h6 : c = 13
  · simp [h6]
  by_cases h7 : c = 9
  · simp [h7]
  rw [if_neg h3, if_neg h4, if_neg h5, if_neg h6, if_neg h7]
  by_cases h8 : c < 32
  · simp [h8]
  · rw [if_neg h8]
    simp [h1, h2]
    omega

theorem body_plain (s : List Int) : (body s).length = s.length ↔ s.all plainB = true := by
  induction s with
  | nil => simp [body]
  | cons c cs ih =>
    have h1 := esc_len c
    have h2 := body_len cs
    have h3 := esc_plain c
    simp only [body, List.length_append, List.length_cons, List.all_cons, Bool.and_eq_true]
    rw [← ih, ← h3]
    omega

theorem canon_plain (s : List Int) : (canon s).length = s.length + 2 ↔ s.all plainB = true := by
  rw [← body_plain]
  simp [canon]

/-- the splitting law -/
theorem canon_split (s t : List Int) : canon (s ++ t) = (canon s).take ((canon s).length - 1) ++ (canon t).drop 1 := by
  have e : canon s = (34 :: body s) ++ [34] := rfl
  rw [e]
  rw [List.take_append_of_le_length (by simp)]
  rw [List.take_of_length_le (by simp)]
  simp [canon, body_append]

theorem split_left (s t : List Int) (i : Nat) (h : i + 1 < (canon s).length) : (canon (s ++ t)).getD i 0 = (canon s).getD i 0 := by
  rw [canon_split]
  have h1 : i < ((canon s).take ((canon s).length - 1)).length := by simp; omega
  simp only [List.getD]
  rw [List.getElem?_append_left h1, List.getElem?_take, if_pos (by omega)]

theorem split_right (s t : List Int) (j : Nat) (h1 : 1 ≤ j) : (canon (s ++ t)).getD ((canon s).length - 2 + j) 0 = (canon t).getD j 0 := by
  rw [canon_split]
  have hl := (canon_len s).1
  have h2 : ((canon s).take ((canon s).length - 1)).length = (canon s).length - 1 := by simp
  simp only [List.getD]
  rw [List.getElem?_append_right (by rw [h2]; omega), h2, List.getElem?_drop]
  congr 2
  omega

theorem split_len (s t : List Int) : (canon (s ++ t)).length + 2 = (canon s).length + (canon t).length := by
  simp [canon, body_append]
  omega

end Go.Proofs.Qxb6601857a.Plain
