/-
  PLAIN LAWS OF TOKEN LISTS (no Go in sight): for FnBuilderValueSpec.
-/
namespace Go.Proofs.Qxb6601678a.Bv

structure Tok where
  kind : Int
  attr : Bool
  count : Int
  frm : Int
  to : Int
  integer : Int
  double : Nat
  boolean : Bool

def isText (k : Int) : Bool := (k == 1) || (k == 2) || (k == 4) || (k == 12) || (k == 11)
def isSeq (k : Int) : Bool := (k == 5) || (k == 15) || (k == 16)
def half (t : Tok) : Int := t.count.tdiv 2

/-- could the token be built? -/
def okTok (R : Nat) (t : Tok) : Prop :=
  ((isText t.kind = true ∨ t.kind = 13) → 0 ≤ t.frm ∧ t.frm ≤ t.to ∧ t.to ≤ R) ∧ (t.kind = 13 → 4 ≤ t.to - t.frm) ∧ (isSeq t.kind = true → 0 ≤ t.count) ∧ (t.kind = 14 → 0 ≤ half t)

def okB (R : Nat) (t : Tok) : Bool :=
  (!(isText t.kind || (t.kind == 13)) || (decide (0 ≤ t.frm) && decide (t.frm ≤ t.to) && decide (t.to ≤ (R : Int)))) && (!(t.kind == 13) || decide (4 ≤ t.to - t.frm)) && (!(isSeq t.kind) || decide (0 ≤ t.count)) && (!(t.kind == 14) || decide (0 ≤ half t))

theorem okB_iff (R : Nat) (t : Tok) : okB R t = true ↔ okTok R t := by
  unfold okB okTok
  cases h1 : isText t.kind <;> cases h2 : isSeq t.kind <;> by_cases h3 : t.kind = 13 <;> by_cases h4 : t.kind = 14 <;> simp [h3, h4, and_assoc]

/-- how many values follow the token as its children -/
def kids (t : Tok) : Nat := if isSeq t.kind = true then t.count.toNat else if t.kind = 14 then 2 * (half t).toNat else 0

/-- the tokens that are left behind the next n values -/
def ext (R : Nat) : List Tok → Nat → Option (List Tok)
  | [], n => if n = 0 then some [] else none
  | t :: ts, n =>
    if n = 0 then some (t :: ts)
    else if t.attr = true then ext R ts (n + 2 * (half t).toNat)
    else if okB R t = true then ext R ts (n - 1 + kids t) else none

theorem ext_zero (R : Nat) (ts : List Tok) : ext R ts 0 = some ts := by
  cases ts with
  | nil => rfl
  | cons t ts => simp [ext]

theorem ext_attr {R : Nat} {t : Tok} {ts : List Tok} {n : Nat} (hn : n ≠ 0) (h : t.attr = true) : ext R (t :: ts) n = ext R ts (n + 2 * (half t).toNat) := by
  rw [ext, if_neg hn, if_pos h]

theorem ext_main {R : Nat} {t : Tok} {ts : List Tok} {n : Nat} (hn : n ≠ 0) (h : t.attr = false) (ho : okB R t = true) : ext R (t :: ts) n = ext R ts (n - 1 + kids t) := by
  rw [ext, if_neg hn, if_neg (by simp [h]), if_pos ho]

theorem ext_bad {R : Nat} {t : Tok} {ts : List Tok} {n : Nat} (hn : n ≠ 0) (h : t.attr = false) (ho : okB R t = false) : ext R (t :: ts) n = none := by
  rw [ext, if_neg hn, if_neg (by simp [h]), if_neg (by simp [ho])]

/-- each value takes a token at least -/
theorem ext_len {R : Nat} : ∀ (ts : List Tok) (n : Nat) (r : List Tok), ext R ts n = some r → n + r.length ≤ ts.length := by
  intro ts
  induction ts with
  | nil =>
    intro n r h
    unfold ext at h
    split at h
    · cases h; simp; omega
    · cases h
  | cons t ts ih =>
    intro n r h
    unfold ext at h
    split at h
    · cases h; omega
    · split at h
      · have := ih _ _ h
        simp; omega
      · split at h
        · have := ih _ _ h
          simp; omega
        · cases h

theorem ext_short {R : Nat} {ts : List Tok} {n : Nat} (h : ts.length < n) : ext R ts n = none := by
  cases e : ext R ts n with
  | none => rfl
  | some r => have := ext_len ts n r e; omega

/-- a + b values: a of them, then b -/
theorem ext_add {R : Nat} : ∀ (ts : List Tok) (a b : Nat), ext R ts (a + b) = (ext R ts a).bind (fun r => ext R r b) := by
  intro ts
  induction ts with
  | nil =>
    intro a b
    by_cases h : a = 0
    · subst h; simp [ext]
    · simp [ext, h]
  | cons t ts ih =>
    intro a b
    by_cases h : a = 0
    · subst h; rw [ext_zero]; simp
    · by_cases ha : t.attr = true
      · rw [ext_attr (by omega) ha, ext_attr h ha, show a + b + 2 * (half t).toNat = (a + 2 * (half t).toNat) + b by omega]
        exact ih _ _
      · have ha' : t.attr = false := by simpa using ha
        by_cases ho : okB R t = true
        · rw [ext_main (by omega) ha' ho, ext_main h ha' ho, show a + b - 1 + kids t = (a - 1 + kids t) + b by omega]
          exact ih _ _
        · have ho' : okB R t = false := by simpa using ho
          rw [ext_bad (by omega) ha' ho', ext_bad h ha' ho']
          rfl

/-- what is left is a tail -/
theorem ext_tail {R : Nat} : ∀ (ts : List Tok) (n : Nat) (r : List Tok), ext R ts n = some r → ∃ p, ts = p ++ r := by
  intro ts
  induction ts with
  | nil =>
    intro n r h
    unfold ext at h
    split at h
    · cases h; exact ⟨[], rfl⟩
    · cases h
  | cons t ts ih =>
    intro n r h
    unfold ext at h
    split at h
    · cases h; exact ⟨[], rfl⟩
    · split at h
      · obtain ⟨p, hp⟩ := ih _ _ h
        exact ⟨t :: p, by rw [hp]; rfl⟩
      · split at h
        · obtain ⟨p, hp⟩ := ih _ _ h
          exact ⟨t :: p, by rw [hp]; rfl⟩
        · cases h

/-- the tokens behind the next n values, where they are there -/
def aft (R : Nat) (ts : List Tok) (n : Nat) : List Tok := (ext R ts n).getD []

theorem aft_eq {R : Nat} {ts r : List Tok} {n : Nat} (h : ext R ts n = some r) : aft R ts n = r := by simp [aft, h]

/-- if n values are there then so are fewer -/
theorem ext_part {R : Nat} {ts r : List Tok} {n : Nat} (h : ext R ts n = some r) {k : Nat} (hk : k ≤ n) : ext R ts k = some (aft R ts k) ∧ ext R (aft R ts k) (n - k) = some r := by
  have e := ext_add (R := R) ts k (n - k)
  rw [show k + (n - k) = n by omega, h] at e
  cases hx : ext R ts k with
  | none => rw [hx] at e; cases e
  | some q =>
    rw [hx] at e
    have hq : aft R ts k = q := aft_eq hx
    rw [hq]
    exact ⟨rfl, e.symm⟩

theorem ext_step {R : Nat} {ts r : List Tok} {n : Nat} (h : ext R ts n = some r) {k : Nat} (hk : k < n) : ext R (aft R ts k) 1 = some (aft R ts (k + 1)) := by
  have h1 := (ext_part h (k := k) (by omega)).1
  have h2 := (ext_part h (k := k + 1) (by omega)).1
  have e := ext_add (R := R) ts k 1
  rw [h2, h1] at e
  exact e.symm

theorem ext_step2 {R : Nat} {ts r : List Tok} {n : Nat} (h : ext R ts n = some r) {k : Nat} (hk : k + 2 ≤ n) : ext R (aft R ts k) 2 = some (aft R ts (k + 2)) := by
  have h1 := (ext_part h (k := k) (by omega)).1
  have h2 := (ext_part h (k := k + 2) (by omega)).1
  have e := ext_add (R := R) ts k 2
  rw [h2, h1] at e
  exact e.symm

theorem aft_zero (R : Nat) (ts : List Tok) : aft R ts 0 = ts := by simp [aft, ext_zero]

theorem aft_all {R : Nat} {ts r : List Tok} {n : Nat} (h : ext R ts n = some r) : aft R ts n = r := aft_eq h

theorem aft_len {R : Nat} {ts r : List Tok} {n : Nat} (h : ext R ts n = some r) {k : Nat} (hk : k ≤ n) : (aft R ts k).length + k ≤ ts.length := by
  have := ext_len _ _ _ (ext_part h hk).1
  omega

/-! ### the tokens that open a value: its attributes, then its own -/

/-- what extent answers -/
def extI (R n : Nat) (ts : List Tok) (need : Nat) : Int :=
  match ext R ts need with
  | some r => (n : Int) - (r.length : Int)
  | none => -1

end Go.Proofs.Qxb6601678a.Bv
