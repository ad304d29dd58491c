/-
  PLAIN LAWS OF DECIMAL TEXTS (no Go in sight): for FnParseDigitsSpec and FnParseDigitsLeadingZero.
-/
namespace Go.Proofs.Qxb6601678a.Plain

/-- A byte that is a digit. -/
def isD (c : Int) : Bool := decide (48 ≤ c) && decide (c ≤ 57)
def allD (bs : List Int) : Bool := bs.all isD

/-- The number that a text of digits names, after n. -/
def vl : Int → List Int → Int
  | n, [] => n
  | n, c :: cs => vl (n * 10 + (c - 48)) cs

/-- parseDigits: the loop. -/
def pd (L : Int) : List Int → Int → Option Int
  | [], n => some n
  | c :: cs, n =>
    if c < 48 ∨ 57 < c then none
    else if ((L - (c - 48)) % 18446744073709551616) / 10 < n then none
    else pd L cs ((n * 10 + (c - 48)) % 18446744073709551616)

def parse (L : Int) (bs : List Int) : Option Int := if bs = [] then none else pd L bs 0

def strip : List Int → List Int
  | [] => []
  | c :: cs => if c = 48 then strip cs else c :: cs

/-- decimalOf, with f places to write in. -/
def dec : Nat → Int → List Int
  | 0, _ => []
  | f + 1, x => if x ≤ 0 then [] else dec f (x / 10) ++ [48 + x % 10]

/-- the comparison of two texts of one length. -/
def lexLe : List Int → List Int → Bool
  | a :: s, b :: l => if a = b then lexLe s l else decide (a < b)
  | _, _ => true

def atMost (bs : List Int) (L : Int) : Bool :=
  if (strip bs).length = (dec 20 L).length then lexLe (strip bs) (dec 20 L) else decide ((strip bs).length < (dec 20 L).length)

theorem isD_iff (c : Int) : isD c = true ↔ 48 ≤ c ∧ c ≤ 57 := by simp [isD]

theorem allD_cons {c : Int} {cs : List Int} : allD (c :: cs) = true ↔ (48 ≤ c ∧ c ≤ 57) ∧ allD cs = true := by
  simp [allD, isD]

theorem allD_append {a b : List Int} : allD (a ++ b) = true ↔ allD a = true ∧ allD b = true := by
  simp [allD]

theorem vl_append (a b : List Int) : ∀ n, vl n (a ++ b) = vl (vl n a) b := by
  induction a with
  | nil => intro n; rfl
  | cons c cs ih => intro n; exact ih _

theorem vl_ge (cs : List Int) : ∀ n, 0 ≤ n → allD cs = true → n ≤ vl n cs := by
  induction cs with
  | nil => intro n _ _; exact Int.le_refl _
  | cons c cs ih =>
    intro n hn h
    obtain ⟨hc, h⟩ := allD_cons.1 h
    have := ih (n * 10 + (c - 48)) (by omega) h
    show n ≤ vl (n * 10 + (c - 48)) cs
    omega

/-! ### parseDigits -/

theorem pd_le (L : Int) (h0 : 0 ≤ L) (h1 : L < 18446744073709551616) (cs : List Int) : ∀ n, 0 ≤ n → allD cs = true → vl n cs ≤ L → pd L cs n = some (vl n cs) := by
  induction cs with
  | nil => intro n _ _ _; rfl
  | cons c cs ih =>
    intro n hn h hle
    obtain ⟨hc, h⟩ := allD_cons.1 h
    have hle' : vl (n * 10 + (c - 48)) cs ≤ L := hle
    have hg := vl_ge cs (n * 10 + (c - 48)) (by omega) h
    have e1 : (L - (c - 48)) % 18446744073709551616 = L - (c - 48) := by omega
    have e2 : (n * 10 + (c - 48)) % 18446744073709551616 = n * 10 + (c - 48) := by omega
    unfold pd
    rw [if_neg (by omega), e1, if_neg (by omega), e2]
    exact ih _ (by omega) h hle'

theorem pd_gt (L : Int) (h0 : 9 ≤ L) (h1 : L < 18446744073709551616) (cs : List Int) : ∀ n, 0 ≤ n → n ≤ L → allD cs = true → L < vl n cs → pd L cs n = none := by
  induction cs with
  | nil => intro n _ hl _ h; exact absurd h (by simp only [vl]; omega)
  | cons c cs ih =>
    intro n hn hl h hgt
    obtain ⟨hc, h⟩ := allD_cons.1 h
    have hgt' : L < vl (n * 10 + (c - 48)) cs := hgt
    have e1 : (L - (c - 48)) % 18446744073709551616 = L - (c - 48) := by omega
    unfold pd
    rw [if_neg (by omega), e1]
    by_cases ht : (L - (c - 48)) / 10 < n
    · rw [if_pos ht]
    · rw [if_neg ht]
      have e2 : (n * 10 + (c - 48)) % 18446744073709551616 = n * 10 + (c - 48) := by omega
      rw [e2]
      exact ih _ (by omega) (by omega) h hgt'

theorem pd_bad (L : Int) (cs : List Int) : ∀ n, allD cs = false → pd L cs n = none := by
  induction cs with
  | nil => intro n h; exact absurd h (by simp [allD])
  | cons c cs ih =>
    intro n h
    unfold pd
    by_cases hc : c < 48 ∨ 57 < c
    · rw [if_pos hc]
    · rw [if_neg hc]
      by_cases ht : ((L - (c - 48)) % 18446744073709551616) / 10 < n
      · rw [if_pos ht]
      · rw [if_neg ht]
        refine ih _ ?_
        cases h' : allD cs with
        | false => rfl
        | true =>
          have : allD (c :: cs) = true := allD_cons.2 ⟨by omega, h'⟩
          rw [this] at h
          exact h

theorem pd_zero (L : Int) (cs : List Int) : pd L (48 :: cs) 0 = pd L cs 0 := by
  show (if (48 : Int) < 48 ∨ (57 : Int) < 48 then none else if ((L - (48 - 48)) % 18446744073709551616) / 10 < 0 then none else pd L cs ((0 * 10 + (48 - 48)) % 18446744073709551616)) = _
  rw [if_neg (by omega), if_neg (by omega)]
  rfl

theorem pd_strip (L : Int) (cs : List Int) : pd L (strip cs) 0 = pd L cs 0 := by
  induction cs with
  | nil => rfl
  | cons c cs ih =>
    unfold strip
    by_cases hc : c = 48
    · rw [if_pos hc, hc, pd_zero]; exact ih
    · rw [if_neg hc]

theorem pd_one (L c : Int) (hc : 48 ≤ c ∧ c ≤ 57) : pd L [c] 0 = some (c - 48) := by
  show (if c < 48 ∨ 57 < c then none else if ((L - (c - 48)) % 18446744073709551616) / 10 < 0 then none else some ((0 * 10 + (c - 48)) % 18446744073709551616)) = _
  rw [if_neg (by omega), if_neg (by omega)]
  congr 1
  omega

/-- what comes out of the loop is in the kind's range. -/
theorem pd_range (L : Int) (cs : List Int) : ∀ n m, 0 ≤ n → n < 18446744073709551616 → pd L cs n = some m → 0 ≤ m ∧ m < 18446744073709551616 := by
  induction cs with
  | nil => intro n m h0 h1 h; obtain rfl := Option.some.inj h; exact ⟨h0, h1⟩
  | cons c cs ih =>
    intro n m h0 h1 h
    unfold pd at h
    by_cases hc : c < 48 ∨ 57 < c
    · rw [if_pos hc] at h; exact absurd h (by simp)
    · rw [if_neg hc] at h
      by_cases ht : ((L - (c - 48)) % 18446744073709551616) / 10 < n
      · rw [if_pos ht] at h; exact absurd h (by simp)
      · rw [if_neg ht] at h
        exact ih _ m (by omega) (by omega) h

theorem parse_range (L : Int) (bs : List Int) : 0 ≤ (parse L bs).getD 0 ∧ (parse L bs).getD 0 < 18446744073709551616 := by
  unfold parse
  split
  · simp
  · cases h : pd L bs 0 with
    | none => simp
    | some m => exact pd_range L bs 0 m (by omega) (by omega) h

/-- A LEADING ZERO CHANGES NOTHING. -/
theorem parse_zero (L : Int) (bs : List Int) (h : bs ≠ []) : parse L (48 :: bs) = parse L bs := by
  unfold parse
  rw [if_neg (by simp), if_neg h, pd_zero]

theorem parse_zero_nil (L : Int) : parse L [48] = some 0 := by
  unfold parse
  rw [if_neg (by simp), pd_zero]
  rfl

/-! ### the texts -/

theorem strip_all (cs : List Int) (h : allD cs = true) : allD (strip cs) = true := by
  induction cs with
  | nil => rfl
  | cons c cs ih =>
    obtain ⟨hc, h'⟩ := allD_cons.1 h
    unfold strip
    by_cases e : c = 48
    · rw [if_pos e]; exact ih h'
    · rw [if_neg e]; exact h

theorem vl_strip (cs : List Int) : vl 0 (strip cs) = vl 0 cs := by
  induction cs with
  | nil => rfl
  | cons c cs ih =>
    unfold strip
    by_cases e : c = 48
    · rw [if_pos e, ih]; subst e; rfl
    · rw [if_neg e]

/-- no leading zero -/
def noLead (s : List Int) : Prop := s.head? ≠ some 48

theorem strip_noLead (cs : List Int) : noLead (strip cs) := by
  induction cs with
  | nil => simp [noLead, strip]
  | cons c cs ih =>
    unfold strip
    by_cases e : c = 48
    · rw [if_pos e]; exact ih
    · rw [if_neg e]; simpa [noLead] using e

theorem pow_pos (n : Nat) : (0 : Int) < 10 ^ n := Int.pow_pos (by omega)

/-- the number of a text after n. -/
theorem vl_split (s : List Int) : ∀ n, vl n s = n * 10 ^ s.length + vl 0 s := by
  induction s with
  | nil => intro n; simp [vl]
  | cons c cs ih =>
    intro n
    show vl (n * 10 + (c - 48)) cs = n * 10 ^ (cs.length + 1) + vl (0 * 10 + (c - 48)) cs
    rw [ih (n * 10 + (c - 48)), ih (0 * 10 + (c - 48)), Int.pow_succ, Int.add_mul, Int.mul_assoc, Int.mul_comm 10, Int.zero_mul, Int.zero_add]
    omega

theorem vl_lt (s : List Int) (h : allD s = true) : vl 0 s < 10 ^ s.length := by
  induction s with
  | nil => simp [vl]
  | cons c cs ih =>
    obtain ⟨hc, h'⟩ := allD_cons.1 h
    have := ih h'
    show vl (0 * 10 + (c - 48)) cs < 10 ^ (cs.length + 1)
    rw [vl_split, Int.pow_succ, Int.mul_comm (10 ^ cs.length) 10]
    have hp := pow_pos cs.length
    have h9 : (0 * 10 + (c - 48)) * 10 ^ cs.length ≤ 9 * 10 ^ cs.length := Int.mul_le_mul_of_nonneg_right (by omega) (by omega)
    omega

theorem vl_nonneg (s : List Int) (h : allD s = true) : 0 ≤ vl 0 s := vl_ge s 0 (by omega) h

theorem vl_low (c : Int) (s : List Int) (h : allD (c :: s) = true) (hl : noLead (c :: s)) : 10 ^ s.length ≤ vl 0 (c :: s) := by
  obtain ⟨hc, h'⟩ := allD_cons.1 h
  have hne : c ≠ 48 := by simpa [noLead] using hl
  have h0 := vl_nonneg s h'
  show 10 ^ s.length ≤ vl (0 * 10 + (c - 48)) s
  rw [vl_split]
  have hp := pow_pos s.length
  have h1 : 1 * 10 ^ s.length ≤ (0 * 10 + (c - 48)) * 10 ^ s.length := Int.mul_le_mul_of_nonneg_right (by omega) (by omega)
  omega

theorem vl_shorter (s l : List Int) (hs : allD s = true) (hl : allD l = true) (hn : noLead l) (hlt : s.length < l.length) : vl 0 s < vl 0 l := by
  cases l with
  | nil => simp at hlt
  | cons c t =>
    have h1 := vl_low c t hl hn
    have h2 := vl_lt s hs
    have h3 : (10 : Int) ^ s.length ≤ 10 ^ t.length := by
      have hle : s.length ≤ t.length := by simp at hlt; omega
      obtain ⟨k, hk⟩ := Nat.exists_eq_add_of_le hle
      rw [hk, Int.pow_add]
      have hp := pow_pos s.length
      have hk1 : (1 : Int) ≤ 10 ^ k := pow_pos k
      have := Int.mul_le_mul_of_nonneg_left hk1 (Int.le_of_lt hp)
      omega
    omega

theorem lexLe_iff (s : List Int) : ∀ l : List Int, s.length = l.length → allD s = true → allD l = true → (lexLe s l = true ↔ vl 0 s ≤ vl 0 l) := by
  induction s with
  | nil =>
    intro l hlen _ _
    cases l with
    | nil => simp [lexLe, vl]
    | cons b t => simp at hlen
  | cons a s ih =>
    intro l hlen hs hl
    cases l with
    | nil => simp at hlen
    | cons b t =>
      have hlen' : s.length = t.length := by simpa using hlen
      obtain ⟨ha, hs'⟩ := allD_cons.1 hs
      obtain ⟨hb, hl'⟩ := allD_cons.1 hl
      have v1 : vl 0 (a :: s) = (0 * 10 + (a - 48)) * 10 ^ s.length + vl 0 s := vl_split s _
      have v2 : vl 0 (b :: t) = (0 * 10 + (b - 48)) * 10 ^ t.length + vl 0 t := vl_split t _
      have b1 := vl_lt s hs'
      have b2 := vl_lt t hl'
      have n1 := vl_nonneg s hs'
      have n2 := vl_nonneg t hl'
      rw [← hlen'] at v2 b2
      have hp := pow_pos s.length
      unfold lexLe
      by_cases e : a = b
      · subst e
        rw [if_pos rfl, ih t hlen' hs' hl', v1, v2]
        omega
      · rw [if_neg e, v1, v2]
        simp only [decide_eq_true_eq]
        constructor
        · intro hab
          have : (0 * 10 + (a - 48) + 1) * 10 ^ s.length ≤ (0 * 10 + (b - 48)) * 10 ^ s.length := Int.mul_le_mul_of_nonneg_right (by omega) (by omega)
          rw [Int.add_mul] at this
          omega
        · intro hle
          by_cases hab : a < b
          · exact hab
          · exfalso
            have : (0 * 10 + (b - 48) + 1) * 10 ^ s.length ≤ (0 * 10 + (a - 48)) * 10 ^ s.length := Int.mul_le_mul_of_nonneg_right (by omega) (by omega)
            rw [Int.add_mul] at this
            omega

/-! ### decimalOf -/

theorem dec_zero (f : Nat) (x : Int) (h : x ≤ 0) : dec f x = [] := by
  cases f with
  | zero => rfl
  | succ f => unfold dec; rw [if_pos h]

theorem dec_all (f : Nat) : ∀ x, 0 ≤ x → allD (dec f x) = true := by
  induction f with
  | zero => intro x _; rfl
  | succ f ih =>
    intro x hx
    unfold dec
    by_cases h : x ≤ 0
    · rw [if_pos h]; rfl
    · rw [if_neg h]
      exact allD_append.2 ⟨ih _ (by omega), allD_cons.2 ⟨by omega, rfl⟩⟩

theorem dec_val (f : Nat) : ∀ x : Int, 0 ≤ x → x < 10 ^ f → vl 0 (dec f x) = x := by
  induction f with
  | zero => intro x h0 h1; simp [dec, vl] at h1 ⊢; omega
  | succ f ih =>
    intro x h0 h1
    unfold dec
    by_cases h : x ≤ 0
    · rw [if_pos h]; simp [vl]; omega
    · rw [if_neg h, vl_append]
      rw [Int.pow_succ] at h1
      rw [ih (x / 10) (by omega) (by omega)]
      simp only [vl]
      omega

theorem dec_noLead (f : Nat) : ∀ x : Int, 0 ≤ x → x < 10 ^ f → noLead (dec f x) := by
  induction f with
  | zero => intro x _ _; simp [noLead, dec]
  | succ f ih =>
    intro x h0 h1
    unfold dec
    by_cases h : x ≤ 0
    · rw [if_pos h]; simp [noLead]
    · rw [if_neg h]
      rw [Int.pow_succ] at h1
      by_cases h10 : x / 10 ≤ 0
      · rw [dec_zero f _ h10]
        simp [noLead]
        omega
      · have hv := dec_val f (x / 10) (by omega) (by omega)
        have := ih (x / 10) (by omega) (by omega)
        cases hd : dec f (x / 10) with
        | nil => rw [hd] at hv; simp [vl] at hv; omega
        | cons c t => rw [hd] at this; simpa [noLead] using this

theorem eq_of_vl (s : List Int) : ∀ l : List Int, s.length = l.length → allD s = true → allD l = true → vl 0 s = vl 0 l → s = l := by
  induction s with
  | nil => intro l hlen _ _ _; exact (List.eq_nil_of_length_eq_zero hlen.symm).symm
  | cons a s ih =>
    intro l hlen hs hl hv
    cases l with
    | nil => simp at hlen
    | cons b t =>
      have hlen' : s.length = t.length := by simpa using hlen
      obtain ⟨ha, hs'⟩ := allD_cons.1 hs
      obtain ⟨hb, hl'⟩ := allD_cons.1 hl
      have v1 : vl 0 (a :: s) = (0 * 10 + (a - 48)) * 10 ^ s.length + vl 0 s := vl_split s _
      have v2 : vl 0 (b :: t) = (0 * 10 + (b - 48)) * 10 ^ t.length + vl 0 t := vl_split t _
      have b1 := vl_lt s hs'
      have b2 := vl_lt t hl'
      have n1 := vl_nonneg s hs'
      have n2 := vl_nonneg t hl'
      rw [← hlen'] at v2 b2
      rw [v1, v2] at hv
      have hp := pow_pos s.length
      have hab : a = b := by
        rcases Int.lt_trichotomy a b with h | h | h
        · have : (0 * 10 + (a - 48) + 1) * 10 ^ s.length ≤ (0 * 10 + (b - 48)) * 10 ^ s.length := Int.mul_le_mul_of_nonneg_right (by omega) (by omega)
          rw [Int.add_mul] at this
          omega
        · exact h
        · have : (0 * 10 + (b - 48) + 1) * 10 ^ s.length ≤ (0 * 10 + (a - 48)) * 10 ^ s.length := Int.mul_le_mul_of_nonneg_right (by omega) (by omega)
          rw [Int.add_mul] at this
          omega
      subst hab
      rw [ih t hlen' hs' hl' (by omega)]

/-- one number, one text without leading zeros -/
theorem text_unique (s l : List Int) (hs : allD s = true) (hl : allD l = true) (ns : noLead s) (nl : noLead l) (hv : vl 0 s = vl 0 l) : s = l := by
  rcases Nat.lt_trichotomy s.length l.length with h | h | h
  · have := vl_shorter s l hs hl nl h; omega
  · exact eq_of_vl s l h hs hl hv
  · have := vl_shorter l s hl hs ns h; omega

theorem big : (18446744073709551616 : Int) < 10 ^ 20 := by decide

theorem atMost_iff (bs : List Int) (L : Int) (h : allD bs = true) (h0 : 0 ≤ L) (h1 : L < 18446744073709551616) : atMost bs L = true ↔ vl 0 bs ≤ L := by
  have hb := big
  have hL : L < 10 ^ 20 := by omega
  have dv := dec_val 20 L h0 hL
  have da := dec_all 20 L h0
  have dn := dec_noLead 20 L h0 hL
  have sa := strip_all bs h
  have sn := strip_noLead bs
  have sv := vl_strip bs
  unfold atMost
  by_cases hlen : (strip bs).length = (dec 20 L).length
  · rw [if_pos hlen, lexLe_iff _ _ hlen sa da, dv, sv]
  · rw [if_neg hlen]
    simp only [decide_eq_true_eq]
    constructor
    · intro hlt
      have := vl_shorter _ _ sa da dn hlt
      omega
    · intro hle
      by_cases hlt : (dec 20 L).length < (strip bs).length
      · have := vl_shorter _ _ da sa sn hlt
        omega
      · omega

/-- THE LAW, in plain words: what FnParseDigitsSpec asks. -/
theorem spec_bad (bs : List Int) (L : Int) (h : bs = [] ∨ allD bs = false) : parse L bs = none := by
  unfold parse
  by_cases hb : bs = []
  · rw [if_pos hb]
  · rw [if_neg hb]
    rcases h with h | h
    · exact absurd h hb
    · exact pd_bad L bs 0 h

theorem spec_most (bs : List Int) (L : Int) (hb : bs ≠ []) (h : allD bs = true) (h0 : 0 ≤ L) (h1 : L < 18446744073709551616) (hm : atMost bs L = true) :
    ∃ n, parse L bs = some n ∧ 0 ≤ n ∧ n ≤ L ∧ dec 20 n = strip bs := by
  have hle := (atMost_iff bs L h h0 h1).1 hm
  have hb' := big
  have hn := vl_nonneg bs h
  refine ⟨vl 0 bs, ?_, hn, hle, ?_⟩
  · unfold parse
    rw [if_neg hb]
    exact pd_le L h0 h1 bs 0 (by omega) h hle
  · refine text_unique _ _ (dec_all 20 _ hn) (strip_all bs h) (dec_noLead 20 _ hn (by omega)) (strip_noLead bs) ?_
    rw [dec_val 20 _ hn (by omega), vl_strip]

theorem spec_above (bs : List Int) (L : Int) (hb : bs ≠ []) (h : allD bs = true) (h0 : 9 ≤ L) (h1 : L < 18446744073709551616) (hm : atMost bs L = false) : parse L bs = none := by
  have hgt : L < vl 0 bs := by
    by_cases hle : vl 0 bs ≤ L
    · rw [(atMost_iff bs L h (by omega) h1).2 hle] at hm; exact absurd hm (by simp)
    · omega
  unfold parse
  rw [if_neg hb]
  exact pd_gt L h0 h1 bs 0 (by omega) (by omega) h hgt

theorem spec_single (bs : List Int) (L c : Int) (hb : bs ≠ []) (h : allD bs = true) (hs : strip bs = [c]) : parse L bs = some (c - 48) ∧ 48 ≤ c ∧ c ≤ 57 := by
  have sa := strip_all bs h
  rw [hs] at sa
  have hc := (allD_cons.1 sa).1
  refine ⟨?_, hc⟩
  unfold parse
  rw [if_neg hb, ← pd_strip, hs]
  exact pd_one L c hc

theorem strip_len (bs : List Int) : (strip bs).length ≤ bs.length := by
  induction bs with
  | nil => exact Nat.le_refl _
  | cons c cs ih =>
    unfold strip
    split
    · simp; omega
    · exact Nat.le_refl _

end Go.Proofs.Qxb6601678a.Plain
