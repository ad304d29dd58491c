/-
  THE WALK OF acClone AND OF FnAppendCanonicalStringGrowthBounds.
-/
import Derived.Test.Qxb6601857aCs1
namespace Go.Proofs.Qxb6601857a
open Go.RowKit Go.ChangeShapes Go.WideShapes Go.ChangeAt
set_option linter.unusedVariables false
set_option maxRecDepth 100000

/-- A slice of integers that came in (the shell's own 'IsRow', spelt here once for all). -/
def Came (k : IntKind) (w : World) (a : Option Addr) (len cap : Nat) (zs : List Int) : Prop :=
  (a = none ∧ len = 0 ∧ cap = 0 ∧ zs = []) ∨
  ∃ x, a = some x ∧ len ≤ cap ∧ cap ≤ maxLen ∧ zs.length = cap ∧ (∀ i, i < zs.length → w.cell? (x.add i) = some (.int k (zs.getD i 0))) ∧ ∀ n ∈ zs, (Lit.int k n).wf = true

theorem Came.take_length {k : IntKind} {w : World} {a : Option Addr} {len cap : Nat} {zs : List Int} (h : Came k w a len cap zs) : (zs.take len).length = len := by
  rcases h with ⟨rfl, rfl, rfl, rfl⟩ | ⟨x, rfl, hl, hcm, hz, hc, hwf⟩
  · simp
  · simp; omega

theorem Came.max {k : IntKind} {w : World} {a : Option Addr} {len cap : Nat} {zs : List Int} (h : Came k w a len cap zs) : len ≤ maxLen := by
  rcases h with ⟨rfl, rfl, rfl, rfl⟩ | ⟨x, rfl, hl, hcm, hz, hc, hwf⟩
  · exact Nat.zero_le _
  · omega

theorem getD_take (zs : List Int) (n i : Nat) (h : i < n) : (zs.take n).getD i 0 = zs.getD i 0 := by
  simp [List.getD, h]

/-- what acClone answers: nil, or a row of its own that holds zs -/
def Cl (w : World) (a : Option Addr) (zs : List Int) : Prop :=
  (a = none ∧ zs = []) ∨ ∃ g, a = some ⟨g, 0, none⟩ ∧ g < w.heap.size ∧ ∀ i, i < zs.length → w.cell? ⟨g, i, none⟩ = some (.int .u8 (zs.getD i 0))

theorem Cl.below {w w' : World} {a : Option Addr} {zs : List Int} (h : Cl w a zs) (hb : Below w.heap.size w w') : Cl w' a zs := by
  rcases h with h | ⟨g, h1, h2, h3⟩
  · exact .inl h
  · exact .inr ⟨g, h1, Nat.lt_of_lt_of_le h2 hb.size, fun i hi => (hb.cell (p := ⟨g, i, none⟩) h2).trans (h3 i hi)⟩

theorem Cl.holds {w : World} {a : Option Addr} {zs : List Int} (h : Cl w a zs) : ∀ b, a = some b → ∀ j u, (zs.map (Value.int .u8))[j]? = some u → w.cell? (b.add j) = some u := by
  intro b hb j u hu
  rcases h with ⟨h, _⟩ | ⟨g, h1, h2, h3⟩
  · rw [h] at hb; cases hb
  · rw [h1] at hb
    obtain rfl := Option.some.inj hb
    have hj : j < zs.length := by
      have := (List.getElem?_eq_some_iff.1 hu).1
      simpa using this
    rw [add_plain, Nat.zero_add, h3 j hj]
    rw [← hu]
    simp [List.getD, hj]

theorem Cl.none_len {w : World} {a : Option Addr} {zs : List Int} (h : Cl w a zs) (ha : a = none) : zs.length = 0 := by
  rcases h with ⟨_, h⟩ | ⟨g, h1, _⟩
  · simp [h]
  · rw [h1] at ha; cases ha

theorem clone9_nil (w : World) : Calls Try.prog 9 #[.slice none 0 0] w fun e w' => e = .returned (.slice none 0 0) ∧ w = w' := by
  have hq := fun w => Lib.run_eql_slice_nil (P := Try.prog) w 22 5 none 0 0 0 0 Try.underlying22
  go_enter Try.func9, Try.ntmps9
  go_wp2
  go_ret
  exact ⟨rfl, rfl⟩

theorem splice_all {α : Type} (cur cs : List α) (h : cur.length = cs.length) : splice cur 0 cs = cs := by
  simp [splice]
  omega

set_option maxHeartbeats 1000000 in
theorem clone9_row (x : Addr) (len cap : Nat) (zs : List Int) (w : World) (hm : len ≤ 1048576) (hz : zs.length = len)
    (hc : ∀ j u, (zs.map (Value.int .u8))[j]? = some u → w.cell? (x.add j) = some u) :
    Calls Try.prog 9 #[.slice (some x) len cap] w fun e w' => e = .returned (.slice (some ⟨w.heap.size, 0, none⟩) len len) ∧ Cl w' (some ⟨w.heap.size, 0, none⟩) zs ∧ Below w.heap.size w w' := by
  have hq := fun w => Lib.run_eql_slice_nil (P := Try.prog) w 22 5 (some x) len cap 0 0 Try.underlying22
  have hmk := fun w => run_make_row' (P := Try.prog) 22 5 (.int .u8 0) 1 Try.underlying22 Try.info5 rfl .i64 .i64 len (by omega) (by omega) w
  have hsz : (Try.prog.info? 5).map (·.size) = some 1 := by kernel_rfl
  have hb1 : Below w.heap.size w (w.alloc (.cells (madeCells #[.int .u8 0] len) 5)) := (Below.refl _ _).alloc (Nat.le_refl _) _
  have hc1 : ∀ j u, (zs.map (Value.int .u8))[j]? = some u → (w.alloc (.cells (madeCells #[.int .u8 0] len) 5)).cell? (x.add j) = some u := fun j u hu => by
    have h1 := hc j u hu
    exact (hb1.cell (p := x.add j) (World.block_lt_of_cell? _ _ h1)).trans h1
  have HC := hide hc1
  clear hc hc1
  go_enter Try.func9, Try.ntmps9
  go_wp2_with (refine wpList_copy_splice rfl (.tmp 9) (.tmp 10) 22 22 rfl 5 Try.underlying22 hsz (some ⟨w.heap.size, 0, none⟩) (some x) len len len cap rfl rfl w.heap.size 0 (madeCells #[.int .u8 0] len).toList 5 (Go.Deep.blk_alloc_new _ _) (zs.map (Value.int .u8)) (by simp [hz]) (fun _ => ⟨rfl, x, rfl, HC.out⟩) (by simp [size_madeCells, hz]) (ints_oneCell _ _) w.heap.size w hb1 (Nat.le_refl _) ?_)
  intro w' HG hb'
  have HCl : Hid (Cl w' (some ⟨w.heap.size, 0, none⟩) zs) := by
    have hg := HG.out
    rw [splice_all _ _ (by simp [size_madeCells, hz])] at hg
    refine .inr ⟨_, rfl, (Array.getElem?_eq_some_iff.1 hg).1, fun i hi => ?_⟩
    simp [World.cell?, hg, List.getD, hi]
  clear HG HC hb1
  go_wp2
  go_ret
  exact ⟨rfl, HCl.out, hb'⟩

theorem clone9_any (a : Option Addr) (len cap : Nat) (zs : List Int) (w : World) (h : Came .u8 w a len cap zs) (hm : len ≤ 1048576) :
    Calls Try.prog 9 #[.slice a len cap] w fun e w' => ∃ a', e = .returned (.slice a' len len) ∧ Cl w' a' (zs.take len) ∧ Below w.heap.size w w' := by
  have htl := h.take_length
  rcases h with ⟨rfl, rfl, rfl, rfl⟩ | ⟨x, rfl, hl, hcm, hz, hc, hwf⟩
  · refine (clone9_nil w).mono ?_
    rintro e w' ⟨rfl, rfl⟩
    exact ⟨_, rfl, .inl ⟨rfl, rfl⟩, Below.refl _ _⟩
  · refine (clone9_row x len cap (zs.take len) w hm htl (fun j u hu => ?_)).mono ?_
    · have hj : j < len := by
        have := (List.getElem?_eq_some_iff.1 hu).1
        simp at this
        omega
      rw [hc j (by omega)]
      rw [← hu]
      have : j < zs.length := by omega
      simp [List.getD, hj, this]
    · rintro e w' ⟨rfl, hcl, hb⟩
      exact ⟨_, rfl, hcl, hb⟩

/-! ### the law -/
theorem zz14 (a : Option Addr) (len cap : Nat) (t : ByteArray) (w : World) (hs : len ≤ maxLen) (ht : t.size ≤ maxLen) :
    Calls Try.prog 14 #[.slice a len cap, .string t] w fun e w' => e = .returned (.bool (decide (len + t.size ≤ 1048576))) ∧ w = w' := by
  unfold maxLen at hs ht
  by_cases h : len + t.size ≤ 1048576
  · rw [decide_eq_true h]
    go_enter Try.func14, Try.ntmps14
    go_wp2
    go_ret
    exact ⟨rfl, rfl⟩
  · rw [decide_eq_false h]
    by_cases e1 : len ≤ 1048576
    · by_cases e2 : t.size ≤ 1048576
      · go_enter Try.func14, Try.ntmps14
        go_wp2
        go_ret
        exact ⟨rfl, rfl⟩
      · go_enter Try.func14, Try.ntmps14
        go_wp2
        go_ret
        exact ⟨rfl, rfl⟩
    · go_enter Try.func14, Try.ntmps14
      go_wp2
      go_ret
      exact ⟨rfl, rfl⟩

theorem gb_out (a : Option Addr) (len cap : Nat) (t : ByteArray) (w : World) (hs : len ≤ maxLen) (ht : t.size ≤ maxLen) (h : ¬ len + t.size ≤ 1048576 ∨ 524288 < len ∨ 524288 < t.size) :
    Calls Try.prog 5 #[.slice a len cap, .string t] w fun e w' => e = .returned (.bool true) ∧ Below w.heap.size w w' := by
  have hs' := hs
  have ht' := ht
  unfold maxLen at hs' ht'
  by_cases h0 : len + t.size ≤ 1048576
  · have hd : decide (len + t.size ≤ 1048576) = true := decide_eq_true h0
    by_cases h1 : 524288 < len
    · go_enter Try.func5, Try.ntmps5
      go_wp2_with fail
      refine (zz14 a len cap t w hs ht).mono ?_
      rintro e w' ⟨rfl, rfl⟩
      rw [hd]
      clear hd
      go_wp2_with fail
      go_ret
      exact ⟨rfl, Below.refl _ _⟩
    · have h2 : 524288 < t.size := by omega
      go_enter Try.func5, Try.ntmps5
      go_wp2_with fail
      refine (zz14 a len cap t w hs ht).mono ?_
      rintro e w' ⟨rfl, rfl⟩
      rw [hd]
      clear hd
      go_wp2_with fail
      go_ret
      exact ⟨rfl, Below.refl _ _⟩
  · have hd : decide (len + t.size ≤ 1048576) = false := decide_eq_false h0
    go_enter Try.func5, Try.ntmps5
    go_wp2_with fail
    refine (zz14 a len cap t w hs ht).mono ?_
    rintro e w' ⟨rfl, rfl⟩
    rw [hd]
    clear hd
    go_wp2_with fail
    go_ret
    exact ⟨rfl, Below.refl _ _⟩

theorem all_snoc (s : ByteArray) (k : Nat) (h : k < s.size) : ((bl s).take (k + 1)).all Plain.plainB = (((bl s).take k).all Plain.plainB && Plain.plainB (s[k].toNat : Int)) := by
  rw [bl_snoc s k h]
  simp

set_option maxHeartbeats 4000000 in
theorem gb_main (a : Option Addr) (len cap : Nat) (zs : List Int) (s : ByteArray) (w : World) (h : Came .u8 w a len cap zs) (hl : len ≤ 524288) (hs : s.size ≤ 524288) :
    Calls Try.prog 5 #[.slice a len cap, .string s] w fun e w' => e = .returned (.bool true) ∧ Below w.heap.size w w' := by
  have hd : decide (len + s.size ≤ 1048576) = true := decide_eq_true (by omega)
  have l1 := Plain.canon_len (bl s)
  have l2 := Plain.canon_plain (bl s)
  rw [bl_length] at l1 l2
  have htl := h.take_length
  go_enter Try.func5, Try.ntmps5
  go_wp2_with fail
  refine (zz14 a len cap s w (by unfold maxLen; omega) (by unfold maxLen; omega)).mono ?_
  rintro e w' ⟨rfl, rfl⟩
  rw [hd]
  clear hd
  go_wp2_with fail
  refine (clone9_any a len cap zs w h (by omega)).mono ?_
  rintro e w1 ⟨a', rfl, hcl, hb1⟩
  clear h
  generalize zs.take len = xs at *
  subst htl
  go_wp2_with fail
  refine (canon10 a' xs s w1 (by omega) (by omega) hcl.none_len hcl.holds).mono ?_
  rintro e w2 ⟨v, rfl, hbuf⟩
  have HB := hide (hb1.trans (hbuf.2.1.mono hb1.size))
  obtain ⟨g, c, rfl, _, _, _, _, _⟩ := hbuf.form (by simp; omega)
  rw [List.length_append]
  have L2 : Hid (((xs.length : Int) + ((Plain.canon (bl s)).length : Int) - (xs.length : Int) == (s.size : Int) + 2) = (bl s).all Plain.plainB) := by
    show _ = _
    rw [Bool.eq_iff_iff, ← l2, beq_iff_eq]
    omega
  generalize (Plain.canon (bl s)).length = C at *
  clear hbuf hcl hb1 l2
  go_wp2
  go_loop [7, 8] (fun p i => ∃ k : Nat, k ≤ s.size ∧ i = .int .i64 k ∧ p = .bool (((bl s).take k).all Plain.plainB)) (fun _ i => s.size - (intOf i).toNat)
  case atStart => exact ⟨0, Nat.zero_le _, rfl, by simp⟩
  case round =>
    obtain ⟨k, hk, rfl, rfl⟩ := hrel
    by_cases hlt : k < s.size
    · have hr := byte_range s k hlt
      have HA := hide (all_snoc s k hlt)
      generalize hP : ((bl s).take k).all Plain.plainB = P at *
      clear hP
      by_cases h1 : (s[k].toNat : Int) < 32
      · have HF : Hid (((bl s).take (k + 1)).all Plain.plainB = false) := by show _ = _; rw [HA.out]; simp [Plain.plainB, h1]
        clear HA
        go_wp2
        go_round
        case rel => exact ⟨k + 1, by omega, by go_num, by rw [HF.out]⟩
        case measure => simp [intOf]; omega
      · by_cases h2 : ((s[k].toNat : Int) == 34) = true
        · have HF : Hid (((bl s).take (k + 1)).all Plain.plainB = false) := by show _ = _; rw [HA.out, Plain.plainB, h2]; simp
          clear HA
          go_wp2
          go_round
          case rel => exact ⟨k + 1, by omega, by go_num, by rw [HF.out]⟩
          case measure => simp [intOf]; omega
        · have h2' : ((s[k].toNat : Int) == 34) = false := by simpa using h2
          clear h2
          by_cases h3 : ((s[k].toNat : Int) == 92) = true
          · have HF : Hid (((bl s).take (k + 1)).all Plain.plainB = false) := by show _ = _; rw [HA.out, Plain.plainB, h3]; simp
            clear HA
            go_wp2
            go_round
            case rel => exact ⟨k + 1, by omega, by go_num, by rw [HF.out]⟩
            case measure => simp [intOf]; omega
          · have h3' : ((s[k].toNat : Int) == 92) = false := by simpa using h3
            clear h3
            have HF : Hid (((bl s).take (k + 1)).all Plain.plainB = P) := by show _ = _; rw [HA.out, Plain.plainB, h2', h3', decide_eq_false h1]; simp
            clear HA
            go_wp2
            go_round
            case rel => exact ⟨k + 1, by omega, by go_num, by rw [HF.out]⟩
            case measure => simp [intOf]; omega
    · have hks : (bl s).take k = bl s := List.take_of_length_le (by rw [bl_length]; omega)
      rw [hks]
      have L3 := L2.out
      generalize (bl s).all Plain.plainB = P at *
      clear hks L2
      go_wp2
      go_ret
      exact ⟨by simp, HB.out⟩

theorem gb_any (a : Option Addr) (len cap : Nat) (zs : List Int) (s : ByteArray) (w : World) (h : Came .u8 w a len cap zs) (hs : s.size ≤ maxLen) :
    Calls Try.prog 5 #[.slice a len cap, .string s] w fun e w' => e = .returned (.bool true) ∧ Below w.heap.size w w' := by
  by_cases hh : ¬ len + s.size ≤ 1048576 ∨ 524288 < len ∨ 524288 < s.size
  · exact gb_out a len cap s w h.max hs hh
  · exact gb_main a len cap zs s w h (by omega) (by omega)

end Go.Proofs.Qxb6601857a
