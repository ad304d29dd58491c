/-
  The law FnBuilderValueSpec (function 8), walked.
-/
import Derived.Test.Qxb6601678aBv13
import Derived.Deep.CutBlock
namespace Go.Proofs.Qxb6601678a.Bv
open Go.RowKit Go.ChangeShapes Go.WideShapes Go.ChangeAt
set_option linter.unusedVariables false
set_option maxRecDepth 100000

attribute [local go_sem] run_store_float

/-- the lengths sum to too much -/
theorem bv_sum (a0 : Option Addr) (l0 c0 : Nat) (a1 : Option Addr) (l1 c1 : Nat) (s : ByteArray) (keep : Bool) (w : World) (h0 : l0 ≤ maxLen) (h1 : l1 ≤ maxLen) (h2 : s.size ≤ maxLen) (hs : ¬ l0 + l1 + s.size ≤ 1048576) :
    Calls Try.prog 8 #[.slice a0 l0 c0, .slice a1 l1 c1, .string s, .bool keep] w fun e w' => e = .returned (.bool true) ∧ Below w.heap.size w w' := by
  have hz := zz24 a0 l0 c0 a1 l1 c1 s keep w h0 h1 h2
  rw [decide_eq_false hs] at hz
  have HZ := hide hz
  clear hz hs
  go_enter Try.func8, Try.ntmps8
  go_wp2_with (go_at_call 24; refine (HZ.out).mono ?_; rintro e w' ⟨rfl, rfl⟩)
  go_ret
  exact ⟨rfl, Below.refl _ _⟩

/-- too many tokens -/
theorem bv_long (a0 : Option Addr) (l0 c0 : Nat) (a1 : Option Addr) (l1 c1 : Nat) (s : ByteArray) (keep : Bool) (w : World) (h0 : l0 ≤ maxLen) (h1 : l1 ≤ maxLen) (h2 : s.size ≤ maxLen) (hs : l0 + l1 + s.size ≤ 1048576) (hl : ¬ l0 ≤ 32768) :
    Calls Try.prog 8 #[.slice a0 l0 c0, .slice a1 l1 c1, .string s, .bool keep] w fun e w' => e = .returned (.bool true) ∧ Below w.heap.size w w' := by
  have hz := zz24 a0 l0 c0 a1 l1 c1 s keep w h0 h1 h2
  rw [decide_eq_true hs] at hz
  have HZ := hide hz
  clear hz
  go_enter Try.func8, Try.ntmps8
  go_wp2_with (go_at_call 24; refine (HZ.out).mono ?_; rintro e w' ⟨rfl, rfl⟩)
  go_ret
  exact ⟨rfl, Below.refl _ _⟩

/-- too many bytes -/
theorem bv_size (a0 : Option Addr) (l0 c0 : Nat) (a1 : Option Addr) (l1 c1 : Nat) (s : ByteArray) (keep : Bool) (w : World) (h0 : l0 ≤ maxLen) (h1 : l1 ≤ maxLen) (h2 : s.size ≤ maxLen) (hs : l0 + l1 + s.size ≤ 1048576) (hl : l0 ≤ 32768) (hb : ¬ l0 * 56 + l1 + s.size ≤ 1048576) :
    Calls Try.prog 8 #[.slice a0 l0 c0, .slice a1 l1 c1, .string s, .bool keep] w fun e w' => e = .returned (.bool true) ∧ Below w.heap.size w w' := by
  have hz := zz24 a0 l0 c0 a1 l1 c1 s keep w h0 h1 h2
  rw [decide_eq_true hs] at hz
  have HZ := hide hz
  clear hz
  have k1 : l1 ≤ 1048576 := by omega
  have k2 : s.size ≤ 1048576 := by omega
  go_enter Try.func8, Try.ntmps8
  go_wp2_with (go_at_call 24; refine (HZ.out).mono ?_; rintro e w' ⟨rfl, rfl⟩)
  go_ret
  exact ⟨rfl, Below.refl _ _⟩

/-- the wire is another text -/
theorem bv_wire (a0 : Option Addr) (l0 c0 : Nat) (a1 : Option Addr) (l1 c1 : Nat) (s : ByteArray) (keep : Bool) (w : World) (z1 : List Int) (hc : Came .u8 w a1 l1 c1 z1) (h0 : l0 ≤ maxLen) (h1 : l1 ≤ maxLen) (h2 : s.size ≤ maxLen) (hs : l0 + l1 + s.size ≤ 1048576) (hl : l0 ≤ 32768) (hb : l0 * 56 + l1 + s.size ≤ 1048576) (hw1 : s.toList.isEmpty = false) (hw2 : (s.toList == (strOfNums (z1.take l1)).toList) = false) :
    Calls Try.prog 8 #[.slice a0 l0 c0, .slice a1 l1 c1, .string s, .bool keep] w fun e w' => e = .returned (.bool true) ∧ Below w.heap.size w w' := by
  have hz := zz24 a0 l0 c0 a1 l1 c1 s keep w h0 h1 h2
  rw [decide_eq_true hs] at hz
  have HZ := hide hz
  have hcv := Came.txt hc
  clear hz hc
  have k1 : l1 ≤ 1048576 := by omega
  have k2 : s.size ≤ 1048576 := by omega
  go_enter Try.func8, Try.ntmps8
  go_wp2_with (go_at_call 24; refine (HZ.out).mono ?_; rintro e w' ⟨rfl, rfl⟩)
  go_ret
  exact ⟨rfl, Below.refl _ _⟩

/-- what stands once the checks have passed -/
structure Fine (l0 l1 : Nat) (s : ByteArray) (rl : List Int) : Prop where
  sum : l0 + l1 + s.size ≤ 1048576
  len : l0 ≤ 32768
  size : l0 * 56 + l1 + s.size ≤ 1048576
  wire : s.toList.isEmpty = true ∨ (s.toList.isEmpty = false ∧ (s.toList == (strOfNums rl).toList) = true)

theorem Fine.text {l0 l1 : Nat} {s : ByteArray} {rl : List Int} (h : Fine l0 l1 s rl) : s = ByteArray.empty ∨ s = strOfNums rl := by
  rcases h.wire with h | ⟨_, h⟩
  · left
    apply bytes_inj
    rw [ByteArray.toList_eq] at h
    rw [List.isEmpty_iff.1 h]
    rfl
  · right
    apply bytes_inj
    rw [ByteArray.toList_eq, ByteArray.toList_eq] at h
    exact eq_of_beq h

/-- the first value cannot be built -/
theorem bv_end (a0 : Option Addr) (l0 c0 : Nat) (a1 : Option Addr) (l1 c1 : Nat) (s : ByteArray) (keep : Bool) (w : World) (z1 : List Int) (hc : Came .u8 w a1 l1 c1 z1) (h0 : l0 ≤ maxLen) (h1 : l1 ≤ maxLen) (h2 : s.size ≤ maxLen) (hf : Fine l0 l1 s (z1.take l1))
    (hx : Calls Try.prog 25 #[.slice a0 l0 c0, .int .i64 0, .int .i64 1, .int .i64 l1] w fun e w' => e = .returned (.int .i64 (-1)) ∧ Below w.heap.size w w') :
    Calls Try.prog 8 #[.slice a0 l0 c0, .slice a1 l1 c1, .string s, .bool keep] w fun e w' => e = .returned (.bool true) ∧ Below w.heap.size w w' := by
  have hz := zz24 a0 l0 c0 a1 l1 c1 s keep w h0 h1 h2
  have hs := hf.sum
  have hl := hf.len
  have hb := hf.size
  rw [decide_eq_true hs] at hz
  have HZ := hide hz
  have HX := hide hx
  have hcv := Came.txt hc
  have HF := hide hf.wire
  clear hz hc hx hf
  have k1 : l1 ≤ 1048576 := by omega
  have k2 : s.size ≤ 1048576 := by omega
  go_enter Try.func8, Try.ntmps8
  go_upto_region 7 with (go_at_call 24; refine (HZ.out).mono ?_; rintro e w' ⟨rfl, rfl⟩)
  go_cut [48] from 12 to 48 (fun v wx => v = .bool false ∧ wx = w)
  case first =>
    rcases HF.out with hw1 | ⟨hw1, hw2⟩
    all_goals
      go_wp2_with fail
      go_meet
      case rel => exact ⟨rfl, rfl⟩
  case rest =>
    obtain ⟨rfl, rfl⟩ := hcut
    clear hcv
    go_wp2_with fail
    refine (HX.out).mono ?_
    rintro e w1 ⟨rfl, hb1⟩
    have HB1 := hide hb1
    clear hb1
    go_wp2_with fail
    go_ret
    exact ⟨rfl, HB1.out⟩

set_option maxHeartbeats 4000000 in
/-- the first value is built, and matches -/
theorem bv_main (b off c0 : Nat) (toks r : List Tok) (a1 : Option Addr) (l1 c1 : Nat) (s : ByteArray) (keep : Bool) (w : World) (z1 : List Int) (hc : Came .u8 w a1 l1 c1 z1) (h0 : toks.length ≤ maxLen) (h1 : l1 ≤ maxLen) (h2 : s.size ≤ maxLen) (hf : Fine toks.length l1 s (z1.take l1))
    (hrow : TokRow w b off toks) (hbl : b < w.heap.size) (hwf : ∀ t ∈ toks, TokWf t) (hext : ext l1 toks 1 = some r) :
    Calls Try.prog 8 #[.slice (some ⟨b, off, none⟩) toks.length c0, .slice a1 l1 c1, .string s, .bool keep] w fun e w' => e = .returned (.bool true) ∧ Below w.heap.size w w' := by
  have hz := zz24 (some ⟨b, off, none⟩) toks.length c0 a1 l1 c1 s keep w h0 h1 h2
  have hs := hf.sum
  have hl := hf.len
  have hb := hf.size
  rw [decide_eq_true hs] at hz
  have kk1 : l1 ≤ 1048576 := by omega
  have k2 : s.size ≤ 1048576 := by omega
  have hel := ext_len _ _ _ hext
  have htl := Came.take_length hc
  obtain ⟨rl, hrl⟩ : ∃ rl, rl = z1.take l1 := ⟨_, rfl⟩
  rw [← hrl] at htl hf
  obtain ⟨EN, hEN⟩ : ∃ EN, EN = toks.length - r.length := ⟨_, rfl⟩
  have hx := extent_row b off toks.length c0 toks 0 1 l1 w rfl hl kk1 hbl hrow hwf (Nat.zero_le _) (by omega)
  have hxv : extI l1 toks.length (toks.drop 0) 1 = (EN : Int) := by
    unfold extI
    rw [List.drop_zero, hext, hEN]
    simp
    omega
  rw [hxv] at hx
  have HEN := hide hEN
  have hen1 : (toks.length : Int) - EN = r.length := by omega
  have hen2 : EN ≤ 32768 := by omega
  have hrr : r.length ≤ 32768 := by omega
  have HZ := hide hz
  have HX := hide hx
  have HCA := hide hc
  have hcv := Came.txt hc
  rw [← hrl] at hcv
  have HRL := hide hrl
  have HF := hide hf
  have HROW := hide hrow
  have HWF := hide hwf
  have HEX := hide hext
  have HTL := hide htl
  clear hz hc hx hf hxv hrow hwf hext htl hEN hel hrl
  go_enter Try.func8, Try.ntmps8
  go_upto_region 7 with (go_at_call 24; refine (HZ.out).mono ?_; rintro e w' ⟨rfl, rfl⟩)
  go_cut [48] from 12 to 48 (fun v wx => v = .bool false ∧ wx = w)
  case first =>
    rcases HF.out.wire with hw1 | ⟨hw1, hw2⟩
    all_goals
      go_wp2_with fail
      go_meet
      case rel => exact ⟨rfl, rfl⟩
  case rest =>
    obtain ⟨rfl, rfl⟩ := hcut
    obtain ⟨w, hwx⟩ : ∃ x : World, x = wc := ⟨_, rfl⟩
    subst hwx
    clear hcv
    go_wp2_with fail
    refine (HX.out).mono ?_
    rintro e w1 ⟨rfl, hb1⟩
    have HB1 := hide hb1
    have HCT := hide (cloneToks_row b off c0 toks w1 hl (Nat.lt_of_lt_of_le hbl hb1.size) (HROW.out.below hb1 hbl))
    clear hb1 HX
    go_wp2_with fail
    refine (HCT.out).mono ?_
    rintro e w2 ⟨rfl, hrow2, hsz2, hb2⟩
    have hb02 : Below w.heap.size w w2 := HB1.out.trans (below_less hb2 HB1.out.size)
    have HB2 := hide hb02
    have HR2 := hide hrow2
    have HS2 := hide hsz2
    have HCB := hide (cloneRaw_any a1 l1 c1 z1 w2 (Came.below HCA.out hb02) kk1)
    clear hb2 hb02 hrow2 hsz2 HCT
    go_wp2_with fail
    refine (HCB.out).mono ?_
    rintro e w3 ⟨v, rfl, hraw3, _, hb3⟩
    rw [← HRL.out] at hraw3
    have hb03 : Below w.heap.size w w3 := HB2.out.trans (below_less hb3 HB2.out.size)
    have hrow3 : TokRow w3 w1.heap.size 0 toks := HR2.out.below hb3 HS2.out
    have hgl3 : w1.heap.size < w3.heap.size := Nat.lt_of_lt_of_le HS2.out hb3.size
    have HCV := hide (callValue_any w1.heap.size toks r rl v s keep w3 hrow3 hgl3 hraw3 HF.out.text HWF.out hl (by rw [HTL.out]; exact kk1) (by rw [HTL.out]; exact HEX.out))
    have HB3 := hide hb03
    have HR3 := hide hrow3
    have HG3 := hide hgl3
    have HW3 := hide hraw3
    obtain ⟨ra, hra⟩ := hraw3.slice
    clear hb3 hb03 hrow3 hgl3 hraw3 HCB
    subst hra
    go_upto_region 14 with fail
    go_cut [10, 11] from 49 to 66 (fun s10 s11 wx => ∃ (w4 : World) (cs : List Value) (lo hi : Nat), s10 = .pointer (some ⟨w4.heap.size, 0, none⟩) ∧ s11 = .int .i64 (r.length : Int) ∧ VT rl.length (strOfNums rl) keep toks.length lo hi w4 cs toks ∧ hi ≤ w4.heap.size ∧ Below w3.heap.size w3 w4 ∧ Fresh w4 wx cs 46)
    case first =>
      go_wp2_with fail
      refine (HCV.out).mono ?_
      rintro e w4 ⟨cs, lo, hi, rfl, hv4, hh4, hb4⟩
      obtain ⟨k1, b1, n1, x1, s1, m1, p1, q1, r1, p2, q2, r2, p3, q3, r3, hcc⟩ := hv4.cells
      subst hcc
      have HTH : Hid ((w4.alloc (.cells #[.int .u8 0, .bool false, .int .i64 0, .float .f64 0, .string ⟨#[]⟩, .string ⟨#[]⟩, .slice none 0 0, .slice none 0 0, .slice none 0 0, .slice none 0 0] 46)).there w4.heap.size 0 10) := there_new
      have HFT := hide (fresh_store (w := w4) (t := 46) (z := #[.int .u8 0, .bool false, .int .i64 0, .float .f64 0, .string ⟨#[]⟩, .string ⟨#[]⟩, .slice none 0 0, .slice none 0 0, .slice none 0 0, .slice none 0 0]) (cs := [.int .u8 k1, .bool b1, .int .i64 n1, .float .f64 x1, .string s1, .string m1, .slice p1 q1 r1, .slice p2 q2 r2, .slice none 0 0, .slice p3 q3 r3]) (by rfl))
      have HV4 := hide (And.intro hv4 (And.intro hh4 hb4))
      clear hv4 hh4 hb4
      go_wp2_with (refine wpl_store rfl 46 (.tmp 10) (.tmp 65) rfl w4.heap.size 0 [.int .u8 k1, .bool b1, .int .i64 n1, .float .f64 x1, .string s1, .string m1, .slice p1 q1 r1, .slice p2 q2 r2, .slice none 0 0, .slice p3 q3 r3] (by rfl) (by rfl) (by exact HTH.out) (by kernel_rfl) (by rfl) ?_)
      go_meet
      case rel => exact ⟨w4, _, lo, hi, rfl, rfl, HV4.out.1, HV4.out.2.1, HV4.out.2.2, HFT.out⟩
    case rest =>
      obtain ⟨w4, cs, lo, hi, rfl, rfl, hv4, hh4, hb4, hf1⟩ := hcut
      obtain ⟨k1, b1, n1, x1, s1, m1, p1, q1, r1, p2, q2, r2, p3, q3, r3, hcc⟩ := hv4.cells
      subst hcc
      have v0 : wc.cell? ⟨w4.heap.size, 0, none⟩ = some (.int .u8 k1) := blk_cell hf1.blk 0
      have v1 : wc.cell? ⟨w4.heap.size, 1, none⟩ = some (.bool b1) := blk_cell hf1.blk 1
      have v2 : wc.cell? ⟨w4.heap.size, 2, none⟩ = some (.int .i64 n1) := blk_cell hf1.blk 2
      have v3 : wc.cell? ⟨w4.heap.size, 3, none⟩ = some (.float .f64 x1) := blk_cell hf1.blk 3
      have v4 : wc.cell? ⟨w4.heap.size, 4, none⟩ = some (.string s1) := blk_cell hf1.blk 4
      have v5 : wc.cell? ⟨w4.heap.size, 5, none⟩ = some (.string m1) := blk_cell hf1.blk 5
      have v6 : wc.cell? ⟨w4.heap.size, 6, none⟩ = some (.slice p1 q1 r1) := blk_cell hf1.blk 6
      have v7 : wc.cell? ⟨w4.heap.size, 7, none⟩ = some (.slice p2 q2 r2) := blk_cell hf1.blk 7
      have v8 : wc.cell? ⟨w4.heap.size, 8, none⟩ = some (.slice none 0 0) := blk_cell hf1.blk 8
      have v9 : wc.cell? ⟨w4.heap.size, 9, none⟩ = some (.slice p3 q3 r3) := blk_cell hf1.blk 9
      have hbc : Below w4.heap.size w4 wc := ⟨hf1.grown.os, hf1.grown.tape, hf1.grown.output, hf1.grown.size, fun k hk => hf1.grown.block k hk (by simp)⟩
      have hb3c : Below w3.heap.size w3 wc := hb4.trans (below_less hbc hb4.size)
      have hmi : MI toks w1.heap.size (.slice ra rl.length rl.length) rl wc := MI.below ⟨HR3.out, HW3.out, HG3.out⟩ hb3c
      have hmv := match_any (toks := toks) (gL := w1.heap.size) (rawV := .slice ra rl.length rl.length) (rl := rl) (keep := keep) HWF.out hl (by rw [HTL.out]; exact kk1) toks.length [.int .u8 k1, .bool b1, .int .i64 n1, .float .f64 x1, .string s1, .string m1, .slice p1 q1 r1, .slice p2 q2 r2, .slice none 0 0, .slice p3 q3 r3] toks r wc lo hi (hv4.stays _ (Nat.le_refl _) (Nat.le_refl _) (fun g _ hg => hbc.block g (by omega))) (Nat.le_trans hh4 hbc.size) ⟨[], rfl⟩ (by rw [HTL.out]; exact HEX.out) hmi
      rw [Nat.sub_self, ← HEN.out] at hmv
      have HMV := hide hmv
      have HBC := hide (HB3.out.trans (below_less hb3c HB3.out.size))
      have hq1 : ((r.length : Int) == (r.length : Int)) = true := by simp
      have hq2 : ((EN : Int) == (EN : Int)) = true := by simp
      clear hv4 hh4 hb4 hf1 hbc hb3c hmi hmv HCV HR3 HW3 HG3 HB3
      go_wp2_with fail
      refine (HMV.out).mono ?_
      rintro e w5 ⟨rfl, hb5⟩
      have HB5 := hide (HBC.out.trans (below_less hb5 HBC.out.size))
      clear hb5
      go_wp2_with fail
      go_ret
      exact ⟨rfl, HB5.out⟩

/-- the law, whatever came in -/
theorem bv_any (a0 : Option Addr) (l0 c0 : Nat) (toks : List Tok) (a1 : Option Addr) (l1 c1 : Nat) (z1 : List Int) (s : ByteArray) (keep : Bool) (w : World) (ht : CameT w a0 l0 c0 toks) (hc : Came .u8 w a1 l1 c1 z1) (h2 : s.size ≤ maxLen) :
    Calls Try.prog 8 #[.slice a0 l0 c0, .slice a1 l1 c1, .string s, .bool keep] w fun e w' => e = .returned (.bool true) ∧ Below w.heap.size w w' := by
  have h0 := ht.max
  have h1 := Came.max hc
  by_cases hs : l0 + l1 + s.size ≤ 1048576
  · by_cases hl : l0 ≤ 32768
    · by_cases hb : l0 * 56 + l1 + s.size ≤ 1048576
      · by_cases hw : s.toList.isEmpty = true ∨ (s.toList.isEmpty = false ∧ (s.toList == (strOfNums (z1.take l1)).toList) = true)
        · have hf : Fine l0 l1 s (z1.take l1) := ⟨hs, hl, hb, hw⟩
          by_cases hz : l0 = 0
          · subst hz
            refine bv_end a0 0 c0 a1 l1 c1 s keep w z1 hc h0 h1 h2 hf ((extent_zero a0 c0 l1 w).mono ?_)
            rintro e w' ⟨rfl, rfl⟩
            exact ⟨rfl, Below.refl _ _⟩
          · obtain ⟨b, off, rfl, hbl, hlen, hrow, hwf⟩ := ht.row (by omega)
            subst hlen
            cases he : ext l1 toks 1 with
            | none =>
              refine bv_end _ toks.length c0 a1 l1 c1 s keep w z1 hc h0 h1 h2 hf ((extent_row b off toks.length c0 toks 0 1 l1 w rfl hl (by omega) hbl hrow hwf (Nat.zero_le _) (by omega)).mono ?_)
              rintro e w' ⟨rfl, hb'⟩
              refine ⟨ret_int ?_, hb'⟩
              rw [List.drop_zero]
              exact extI_none he
            | some r => exact bv_main b off c0 toks r a1 l1 c1 s keep w z1 hc h0 h1 h2 hf hrow hbl hwf he
        · refine bv_wire a0 l0 c0 a1 l1 c1 s keep w z1 hc h0 h1 h2 hs hl hb ?_ ?_
          · cases h : s.toList.isEmpty with
            | true => exact absurd (.inl h) hw
            | false => rfl
          · cases h : (s.toList == (strOfNums (z1.take l1)).toList) with
            | true =>
              cases h' : s.toList.isEmpty with
              | true => exact absurd (.inl h') hw
              | false => exact absurd (.inr ⟨h', h⟩) hw
            | false => rfl
      · exact bv_size a0 l0 c0 a1 l1 c1 s keep w h0 h1 h2 hs hl hb
    · exact bv_long a0 l0 c0 a1 l1 c1 s keep w h0 h1 h2 hs hl
  · exact bv_sum a0 l0 c0 a1 l1 c1 s keep w h0 h1 h2 hs

end Go.Proofs.Qxb6601678a.Bv
