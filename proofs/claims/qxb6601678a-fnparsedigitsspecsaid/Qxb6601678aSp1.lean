/-
  THE WALK OF FnParseDigitsSpec.
-/
import Derived.Test.Qxb6601678aPd2
namespace Go.Proofs.Qxb6601678a
open Go.RowKit Go.ChangeShapes Go.WideShapes Go.ChangeAt
set_option linter.unusedVariables false

theorem sp_long (a0 : Option Addr) (len0 cap0 : Nat) (L : Int) (w : World) (hm : len0 ≤ maxLen) (hl : ¬ len0 ≤ 1048576) :
    Calls Try.prog 3 #[.slice a0 len0 cap0, .int .u64 L] w fun e w' => e = .returned (.bool true) ∧ Below w.heap.size w w' := by
  have hd : decide (len0 ≤ 1048576) = false := decide_eq_false hl
  go_enter Try.func3, Try.ntmps3
  go_wp2_with (go_at_call 10; refine (zzBytes10 _ _ _ _ _ hm).mono ?_; rintro e w' ⟨rfl, rfl⟩)
  go_ret
  exact ⟨rfl, Below.refl _ _⟩

/-- not all digits -/
theorem sp_bad (a0 : Option Addr) (len0 cap0 : Nat) (z0 : List Int) (L : Int) (w : World) (h : Came .u8 w a0 len0 cap0 z0) (hl : len0 ≤ 1048576)
    (hbad : (!(z0.take len0).isEmpty && Plain.allD (z0.take len0)) = false) (hp : Plain.parse L (z0.take len0) = none) :
    Calls Try.prog 3 #[.slice a0 len0 cap0, .int .u64 L] w fun e w' => e = .returned (.bool true) ∧ Below w.heap.size w w' := by
  have hd : decide (len0 ≤ 1048576) = true := decide_eq_true hl
  have hmx := h.max
  generalize hzs : z0.take len0 = zs at hbad hp
  go_enter Try.func3, Try.ntmps3
  go_wp2_with (go_at_call 10; refine (zzBytes10 _ _ _ _ _ hmx).mono ?_; rintro e w' ⟨rfl, rfl⟩)
  refine (clone_own a0 len0 cap0 z0 w h hl).mono ?_
  rintro e w1 ⟨a', rfl, hown, hb⟩
  rw [hzs] at hown
  go_wp2_with fail
  refine (zzParse_any a' len0 len0 zs L w1 hown.rd (by omega)).mono ?_
  rintro e w2 ⟨rfl, rfl⟩
  rw [hp]
  go_wp2_with fail
  refine (allDigits_any a' len0 len0 zs w1 hown.rd (by omega)).mono ?_
  rintro e w2 ⟨rfl, rfl⟩
  rw [hbad]
  clear hbad hp hown
  go_wp2
  go_ret
  exact ⟨rfl, hb⟩

/-- all digits, at most the limit -/
theorem sp_most (a0 : Option Addr) (len0 cap0 : Nat) (z0 : List Int) (L n : Int) (w : World) (h : Came .u8 w a0 len0 cap0 z0) (hl : len0 ≤ 1048576) (hL0 : 0 ≤ L) (hL1 : L ≤ 18446744073709551615)
    (hgood : (!(z0.take len0).isEmpty && Plain.allD (z0.take len0)) = true) (hmost : Plain.atMost (z0.take len0) L = true) (hp : Plain.parse L (z0.take len0) = some n) (hn0 : 0 ≤ n) (hn1 : n ≤ L) (hdec : Plain.dec 20 n = Plain.strip (z0.take len0)) :
    Calls Try.prog 3 #[.slice a0 len0 cap0, .int .u64 L] w fun e w' => e = .returned (.bool true) ∧ Below w.heap.size w w' := by
  have hd : decide (len0 ≤ 1048576) = true := decide_eq_true hl
  have hmx := h.max
  generalize hzs : z0.take len0 = zs at hgood hp hmost hdec
  go_enter Try.func3, Try.ntmps3
  go_wp2_with (go_at_call 10; refine (zzBytes10 _ _ _ _ _ hmx).mono ?_; rintro e w' ⟨rfl, rfl⟩)
  refine (clone_own a0 len0 cap0 z0 w h hl).mono ?_
  rintro e w1 ⟨a', rfl, hown, hb⟩
  rw [hzs] at hown
  go_wp2_with fail
  refine (zzParse_any a' len0 len0 zs L w1 hown.rd (by omega)).mono ?_
  rintro e w2 ⟨rfl, rfl⟩
  rw [hp]
  go_wp2_with fail
  refine (allDigits_any a' len0 len0 zs w1 hown.rd (by omega)).mono ?_
  rintro e w2 ⟨rfl, rfl⟩
  rw [hgood]
  go_wp2_with fail
  refine (atMost_any a' len0 zs L w1 hown (by omega) hL0 hL1).mono ?_
  rintro e w2 ⟨rfl, hb2⟩
  rw [hmost]
  have hown2 := hown.below hb2
  have hbb := hb.trans (hb2.mono hb.size)
  have HD : Hid (Plain.dec 20 n = Plain.strip zs) := hdec
  clear hgood hmost hp hown hdec hb hb2
  go_wp2_with fail
  refine (decimalOf_any n w2 hn0 (by omega)).mono ?_
  rintro e w3 ⟨a3, rfl, hown3, hb3⟩
  have hown2' := hown2.below hb3
  have hsz2 := hbb.size
  have hsz3 := hb3.size
  go_wp2_with fail
  refine (strip_any a' len0 zs w3 hown2' (by omega)).mono ?_
  rintro e w4 ⟨a4, cap4, rfl, hrd4, rfl⟩
  go_wp2_with fail
  refine (same_any a3 a4 _ _ _ _ (Plain.dec 20 n) (Plain.strip zs) w3 hown3.rd hrd4 (by have := dec_len 20 n; omega)).mono ?_
  rintro e w4 ⟨rfl, hb4⟩
  have hsz4 := hb4.size
  rw [decide_eq_true HD.out]
  go_wp2
  go_ret
  exact ⟨rfl, (hbb.trans (hb3.mono hsz2)).trans (hb4.mono (by omega))⟩

/-- all digits, above a limit of at least 9 -/
theorem sp_above (a0 : Option Addr) (len0 cap0 : Nat) (z0 : List Int) (L : Int) (w : World) (h : Came .u8 w a0 len0 cap0 z0) (hl : len0 ≤ 1048576) (hL0 : 0 ≤ L) (hL1 : L ≤ 18446744073709551615) (h9 : 9 ≤ L)
    (hgood : (!(z0.take len0).isEmpty && Plain.allD (z0.take len0)) = true) (hmost : Plain.atMost (z0.take len0) L = false) (hp : Plain.parse L (z0.take len0) = none) :
    Calls Try.prog 3 #[.slice a0 len0 cap0, .int .u64 L] w fun e w' => e = .returned (.bool true) ∧ Below w.heap.size w w' := by
  have hd : decide (len0 ≤ 1048576) = true := decide_eq_true hl
  have hmx := h.max
  generalize hzs : z0.take len0 = zs at hgood hp hmost
  go_enter Try.func3, Try.ntmps3
  go_wp2_with (go_at_call 10; refine (zzBytes10 _ _ _ _ _ hmx).mono ?_; rintro e w' ⟨rfl, rfl⟩)
  refine (clone_own a0 len0 cap0 z0 w h hl).mono ?_
  rintro e w1 ⟨a', rfl, hown, hb⟩
  rw [hzs] at hown
  go_wp2_with fail
  refine (zzParse_any a' len0 len0 zs L w1 hown.rd (by omega)).mono ?_
  rintro e w2 ⟨rfl, rfl⟩
  rw [hp]
  go_wp2_with fail
  refine (allDigits_any a' len0 len0 zs w1 hown.rd (by omega)).mono ?_
  rintro e w2 ⟨rfl, rfl⟩
  rw [hgood]
  go_wp2_with fail
  refine (atMost_any a' len0 zs L w1 hown (by omega) hL0 hL1).mono ?_
  rintro e w2 ⟨rfl, hb2⟩
  rw [hmost]
  have hbb := hb.trans (hb2.mono hb.size)
  clear hgood hmost hp hown hb hb2
  go_wp2
  go_ret
  exact ⟨rfl, hbb⟩

/-- all digits, above a limit under 9 -/
theorem sp_low (a0 : Option Addr) (len0 cap0 : Nat) (z0 : List Int) (L : Int) (w : World) (h : Came .u8 w a0 len0 cap0 z0) (hl : len0 ≤ 1048576) (hL0 : 0 ≤ L) (hL1 : L ≤ 18446744073709551615) (h9 : L < 9)
    (hgood : (!(z0.take len0).isEmpty && Plain.allD (z0.take len0)) = true) (hmost : Plain.atMost (z0.take len0) L = false)
    (h1 : ∀ c, Plain.strip (z0.take len0) = [c] → Plain.parse L (z0.take len0) = some (c - 48) ∧ 48 ≤ c ∧ c ≤ 57) :
    Calls Try.prog 3 #[.slice a0 len0 cap0, .int .u64 L] w fun e w' => e = .returned (.bool true) ∧ Below w.heap.size w w' := by
  have hd : decide (len0 ≤ 1048576) = true := decide_eq_true hl
  have hmx := h.max
  generalize hzs : z0.take len0 = zs at hgood h1 hmost
  go_enter Try.func3, Try.ntmps3
  go_wp2_with (go_at_call 10; refine (zzBytes10 _ _ _ _ _ hmx).mono ?_; rintro e w' ⟨rfl, rfl⟩)
  refine (clone_own a0 len0 cap0 z0 w h hl).mono ?_
  rintro e w1 ⟨a', rfl, hown, hb⟩
  rw [hzs] at hown
  go_wp2_with fail
  refine (zzParse_any a' len0 len0 zs L w1 hown.rd (by omega)).mono ?_
  rintro e w2 ⟨rfl, rfl⟩
  go_wp2_with fail
  refine (allDigits_any a' len0 len0 zs w1 hown.rd (by omega)).mono ?_
  rintro e w2 ⟨rfl, rfl⟩
  rw [hgood]
  go_wp2_with fail
  refine (atMost_any a' len0 zs L w1 hown (by omega) hL0 hL1).mono ?_
  rintro e w2 ⟨rfl, hb2⟩
  rw [hmost]
  have hown2 := hown.below hb2
  have hbb := hb.trans (hb2.mono hb.size)
  have H1 : Hid (∀ c, Plain.strip zs = [c] → Plain.parse L zs = some (c - 48) ∧ 48 ≤ c ∧ c ≤ 57) := h1
  clear hgood hmost hown hb hb2 h1
  go_wp2_with fail
  refine (strip_any a' len0 zs w2 hown2 (by omega)).mono ?_
  rintro e w3 ⟨a4, cap4, rfl, hrd4, rfl⟩
  have hsl : (Plain.strip zs).length ≤ 1048576 := by have := Plain.strip_len zs; have := hown2.1; omega
  by_cases hone : (Plain.strip zs).length = 1
  · obtain ⟨c, hc⟩ : ∃ c, Plain.strip zs = [c] := List.length_eq_one_iff.1 hone
    obtain ⟨hp, hc0, hc1⟩ := H1.out c hc
    rw [hp, hc]
    rw [hc] at hrd4
    obtain ⟨-, -, h3⟩ := hrd4
    rcases h3 with h3 | ⟨b, off, rfl, hlt, hcell⟩
    · simp at h3
    have hcl : w2.cell? ⟨b, off, none⟩ = some (.int .u8 c) := by simpa using hcell 0 (by simp)
    clear H1 hc hp hone hsl hcell hown2
    go_wp2
    go_ret
    exact ⟨rfl, hbb⟩
  · have hone' : (((Plain.strip zs).length : Int) == 1) = false := by simp; omega
    have hq : ((Plain.parse L zs).isSome || ((Plain.parse L zs).getD 0 == 0)) = true := by cases Plain.parse L zs <;> simp
    clear H1 hrd4 hone hown2
    generalize (Plain.strip zs).length = k at *
    generalize (Plain.parse L zs).getD 0 = n at *
    generalize (Plain.parse L zs).isSome = ok at *
    cases ok with
    | true =>
      go_wp2
      go_ret
      exact ⟨rfl, hbb⟩
    | false =>
      have hn : (n == 0) = true := by simpa using hq
      go_wp2
      go_ret
      exact ⟨rfl, hbb⟩

theorem sp_any (a0 : Option Addr) (len0 cap0 : Nat) (z0 : List Int) (L : Int) (w : World) (h : Came .u8 w a0 len0 cap0 z0) (hL : (Lit.int .u64 L).wf = true) :
    Calls Try.prog 3 #[.slice a0 len0 cap0, .int .u64 L] w fun e w' => e = .returned (.bool true) ∧ Below w.heap.size w w' := by
  obtain ⟨hL0, hL1⟩ := bounds_u64 hL
  by_cases hl : len0 ≤ 1048576
  · cases hg : (!(z0.take len0).isEmpty && Plain.allD (z0.take len0)) with
    | false =>
      refine sp_bad a0 len0 cap0 z0 L w h hl hg (Plain.spec_bad _ L ?_)
      simp only [Bool.and_eq_false_iff, Bool.not_eq_false', List.isEmpty_iff] at hg
      exact hg
    | true =>
      have hg' := hg
      simp only [Bool.and_eq_true, Bool.not_eq_true', List.isEmpty_eq_false_iff] at hg'
      cases hm : Plain.atMost (z0.take len0) L with
      | true =>
        obtain ⟨n, h1, h2, h3, h4⟩ := Plain.spec_most _ L hg'.1 hg'.2 hL0 (by omega) hm
        exact sp_most a0 len0 cap0 z0 L n w h hl hL0 hL1 hg hm h1 h2 h3 h4
      | false =>
        by_cases h9 : 9 ≤ L
        · exact sp_above a0 len0 cap0 z0 L w h hl hL0 hL1 h9 hg hm (Plain.spec_above _ L hg'.1 hg'.2 h9 (by omega) hm)
        · exact sp_low a0 len0 cap0 z0 L w h hl hL0 hL1 (by omega) hg hm (fun c hc => Plain.spec_single _ L c hg'.1 hg'.2 hc)
  · exact sp_long a0 len0 cap0 L w h.max hl

end Go.Proofs.Qxb6601678a
