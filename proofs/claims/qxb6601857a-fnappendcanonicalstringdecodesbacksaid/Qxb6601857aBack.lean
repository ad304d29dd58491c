/-
  THE WALK OF FnAppendCanonicalStringDecodesBack.
-/
import Derived.Test.Qxb6601857aDec
namespace Go.Proofs.Qxb6601857a
open Go.RowKit Go.ChangeShapes Go.WideShapes Go.ChangeAt
set_option linter.unusedVariables false
set_option maxRecDepth 100000

theorem zz8 (a : Option Addr) (len cap : Nat) (t : ByteArray) (w : World) (hs : len ≤ maxLen) (ht : t.size ≤ maxLen) :
    Calls Try.prog 8 #[.slice a len cap, .string t] w fun e w' => e = .returned (.bool (decide (len + t.size ≤ 1048576))) ∧ w = w' := by
  unfold maxLen at hs ht
  by_cases h : len + t.size ≤ 1048576
  · rw [decide_eq_true h]
    go_enter Try.func8, Try.ntmps8
    go_wp2
    go_ret
    exact ⟨rfl, rfl⟩
  · rw [decide_eq_false h]
    by_cases e1 : len ≤ 1048576
    · by_cases e2 : t.size ≤ 1048576
      · go_enter Try.func8, Try.ntmps8
        go_wp2
        go_ret
        exact ⟨rfl, rfl⟩
      · go_enter Try.func8, Try.ntmps8
        go_wp2
        go_ret
        exact ⟨rfl, rfl⟩
    · go_enter Try.func8, Try.ntmps8
      go_wp2
      go_ret
      exact ⟨rfl, rfl⟩

theorem db_out (a : Option Addr) (len cap : Nat) (t : ByteArray) (w : World) (hs : len ≤ maxLen) (ht : t.size ≤ maxLen) (h : ¬ len + t.size ≤ 1048576 ∨ 524288 < len ∨ 524288 < t.size) :
    Calls Try.prog 3 #[.slice a len cap, .string t] w fun e w' => e = .returned (.bool true) ∧ Below w.heap.size w w' := by
  have hs' := hs
  have ht' := ht
  unfold maxLen at hs' ht'
  by_cases h0 : len + t.size ≤ 1048576
  · have hd : decide (len + t.size ≤ 1048576) = true := decide_eq_true h0
    by_cases h1 : 524288 < len
    · go_enter Try.func3, Try.ntmps3
      go_wp2_with fail
      refine (zz8 a len cap t w hs ht).mono ?_
      rintro e w' ⟨rfl, rfl⟩
      rw [hd]
      clear hd
      go_wp2_with fail
      go_ret
      exact ⟨rfl, Below.refl _ _⟩
    · have h2 : 524288 < t.size := by omega
      go_enter Try.func3, Try.ntmps3
      go_wp2_with fail
      refine (zz8 a len cap t w hs ht).mono ?_
      rintro e w' ⟨rfl, rfl⟩
      rw [hd]
      clear hd
      go_wp2_with fail
      go_ret
      exact ⟨rfl, Below.refl _ _⟩
  · have hd : decide (len + t.size ≤ 1048576) = false := decide_eq_false h0
    go_enter Try.func3, Try.ntmps3
    go_wp2_with fail
    refine (zz8 a len cap t w hs ht).mono ?_
    rintro e w' ⟨rfl, rfl⟩
    rw [hd]
    clear hd
    go_wp2_with fail
    go_ret
    exact ⟨rfl, Below.refl _ _⟩

theorem same12_nil (s : ByteArray) (w : World) (hs : s.size = 0) :
    Calls Try.prog 12 #[.slice none 0 0, .string s] w fun e w' => e = .returned (.bool true) ∧ Below w.heap.size w w' := by
  have hne : ((0 : Int) != (s.size : Int)) = false := by simp; omega
  have hs' : s.size ≤ 0 := by omega
  clear hs
  go_enter Try.func12, Try.ntmps12
  go_wp2
  refine wp_loop_rounds 1 ?_
  rw [rounds_succ]
  go_wp2
  go_ret
  exact ⟨rfl, Below.refl _ _⟩

/-- acSame of a buffer that holds the string's bytes -/
theorem same12_buf {B : Nat} {v : Value} {W0 w : World} (s : ByteArray) (h : Buf B v (bl s) W0 w) (hs : s.size ≤ 1048577) :
    Calls Try.prog 12 #[v, .string s] w fun e w' => e = .returned (.bool true) ∧ Below w.heap.size w w' := by
  obtain ⟨h1, h2, h3⟩ := h
  rcases h1.2 with ⟨rfl, h0⟩ | ⟨g, cap, cur, rfl, hB, hg, hn, hm, hc, ht⟩
  · rw [bl_length] at h0
    exact same12_nil s w h0
  · refine same12 g _ cap (bl s) s w rfl rfl (by rw [bl_length]; exact hs) (fun _ => (Array.getElem?_eq_some_iff.1 hg).1) (fun i hi => ?_)
    rw [h1.cellAt i (by omega)]
    simp [List.getD, hi]

theorem bl_bytes (s : ByteArray) (i : Nat) : 0 ≤ (bl s).getD i 0 ∧ (bl s).getD i 0 ≤ 255 := by
  by_cases hi : i < s.size
  · have := byte_range s i hi
    have e : (bl s).getD i 0 = (s[i].toNat : Int) := by
      simp [bl, List.getD, hi]
      rfl
    rw [e]
    exact this
  · have hl : ¬ i < (bl s).length := by rw [bl_length]; exact hi
    simp [List.getD, hl]

set_option maxHeartbeats 4000000 in
theorem db_main (a : Option Addr) (len cap : Nat) (zs : List Int) (s : ByteArray) (w : World) (h : Came .u8 w a len cap zs) (hl : len ≤ 524288) (hs : s.size ≤ 524288) :
    Calls Try.prog 3 #[.slice a len cap, .string s] w fun e w' => e = .returned (.bool true) ∧ Below w.heap.size w w' := by
  have hd : decide (len + s.size ≤ 1048576) = true := decide_eq_true (by omega)
  have l1 := Plain.canon_len (bl s)
  rw [bl_length] at l1
  have htl := h.take_length
  go_enter Try.func3, Try.ntmps3
  go_wp2_with fail
  refine (zz8 a len cap s w (by unfold maxLen; omega) (by unfold maxLen; omega)).mono ?_
  rintro e w' ⟨rfl, rfl⟩
  rw [hd]
  clear hd
  go_wp2_with fail
  refine (clone9_any a len cap zs w h (by omega)).mono ?_
  rintro e w1 ⟨a', rfl, hcl, hb1⟩
  clear h
  generalize zs.take len = xs at *
  subst htl
  go_wp2_with fail
  refine (canon10 a' xs s w1 (by omega) (by omega) hcl.none_len hcl.holds).mono ?_
  rintro e w2 ⟨v, rfl, hbuf⟩
  have hB2 := hbuf.2.1
  have HB := hide (hb1.trans (hB2.mono hb1.size))
  have HCL := hide (hcl.below hB2)
  obtain ⟨g, c, rfl, _, hg, hTc, hcm, hcell⟩ := hbuf.form (by simp; omega)
  obtain ⟨T, hT⟩ : ∃ T, T = (xs ++ Plain.canon (bl s)).length := ⟨_, rfl⟩
  rw [← hT] at hTc hcell ⊢
  have HC := hide hcell
  rw [List.length_append] at hT
  have t1 : xs.length + 2 ≤ T := by omega
  have t2 : T ≤ 100000000 := by omega
  have HT := hide hT
  unfold maxLen at hcm
  clear hT hcell hbuf hcl hb1 hB2
  go_wp2
  go_loopw [6] (fun i wr => ∃ k : Nat, k ≤ xs.length ∧ i = .int .i64 k ∧ Below w2.heap.size w2 wr) (fun i _ => xs.length - (intOf i).toNat)
  case atStart => exact ⟨0, Nat.zero_le _, rfl, Below.refl _ _⟩
  case round =>
    obtain ⟨k, hk, rfl, hbel⟩ := hrel
    by_cases hlt : k < xs.length
    · have ck1 : wr.cell? ⟨g, k, none⟩ = some (.int .u8 (xs.getD k 0)) := by
        have := HC.out k (by omega)
        rw [(hbel.cell (p := ⟨g, k, none⟩) hg), this]
        simp [List.getD, List.getElem?_append_left hlt]
      rcases HCL.out with ⟨_, hx⟩ | ⟨gb, rfl, hgb, hcb⟩
      · rw [hx] at hlt; simp at hlt
      have ck2 : wr.cell? ⟨gb, k, none⟩ = some (.int .u8 (xs.getD k 0)) := (hbel.cell (p := ⟨gb, k, none⟩) hgb).trans (hcb k hlt)
      clear hcb
      generalize xs.getD k 0 = d at ck1 ck2
      have q1 : (k : Int) < (T : Int) := by omega
      have q2 : (k : Int) < (xs.length : Int) := by omega
      go_wp2
      go_quiet (fail)
      go_wp2
      go_roundw
      case rel => exact ⟨k + 1, by omega, by go_num, below_drewN hbel _⟩
      case measure => simp [intOf]; omega
    · have hcx : ¬ c = xs.length := by omega
      have HCW : Hid (∀ i, i < T - xs.length → wr.cell? ⟨g, xs.length + i, none⟩ = some (.int .u8 ((Plain.canon (bl s)).getD i 0))) := by
        intro i hi
        rw [(hbel.cell (p := ⟨g, xs.length + i, none⟩) hg), HC.out (xs.length + i) (by omega)]
        simp [List.getD, List.getElem?_append_right]
      have hgr : g < wr.heap.size := Nat.lt_of_lt_of_le hg hbel.size
      go_wp2_with fail
      refine (decode11 g xs.length (T - xs.length) _ (bl s) wr (bl_bytes s) (by have := HT.out; omega) (by rw [bl_length]; omega) hgr HCW.out).mono ?_
      rintro e w3 ⟨v3, rfl, hb3⟩
      have HB3 := hide hb3
      clear hb3 HC HCW HCL
      go_wp2_with fail
      refine (same12_buf s HB3.out (by omega)).mono ?_
      rintro e w4 ⟨rfl, hb4⟩
      have s1 := HB.out.size
      have s2 := hbel.size
      have s3 := HB3.out.2.1.size
      have HBE := hide (((HB.out.trans (hbel.mono s1)).trans (HB3.out.2.1.mono (by omega))).trans (hb4.mono (by omega)))
      clear hb4 HB3 HB
      go_wp2
      go_ret
      exact ⟨rfl, HBE.out⟩

theorem db_any (a : Option Addr) (len cap : Nat) (zs : List Int) (s : ByteArray) (w : World) (h : Came .u8 w a len cap zs) (hs : s.size ≤ maxLen) :
    Calls Try.prog 3 #[.slice a len cap, .string s] w fun e w' => e = .returned (.bool true) ∧ Below w.heap.size w w' := by
  by_cases hh : ¬ len + s.size ≤ 1048576 ∨ 524288 < len ∨ 524288 < s.size
  · exact db_out a len cap s w h.max hs hh
  · exact db_main a len cap zs s w h (by omega) (by omega)

end Go.Proofs.Qxb6601857a
