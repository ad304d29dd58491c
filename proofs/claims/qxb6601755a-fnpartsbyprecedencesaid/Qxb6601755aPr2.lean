/-
  THE WALK OF FnPartsByPrecedence: the law itself.
-/
import Derived.Test.Qxb6601755aPr1
namespace Go.Proofs.Qxb6601755a
open Go.RowKit Go.ChangeShapes Go.WideShapes Go.ChangeAt
set_option linter.unusedVariables false
set_option maxRecDepth 100000

theorem zzParts_any (N : Nat) (f k : Int) (ac ab : Option Addr) (lc lb : Nat) (cs bs : List Int) (vt : Value) (p q s t u : Int) (w : World) (hN : N ≤ 65536) (hlc : lc ≤ 131072) (hlb : lb ≤ 131072)
    (hvt : ∃ a l c, vt = .slice a l c) (hc : Own w ac lc cs) (hb : Own w ab lb bs) (ic : allIn N cs = true) (ib : allIn N bs = true) :
    Calls Try.prog 10 #[.agg #[.int .i64 N, .int .i64 f, .int .i64 k, .slice ac lc lc, .slice ab lb lb, vt, .int .i64 p, .int .i64 q, .int .u64 s, .int .i64 t, .int .i64 u]] w fun e w' =>
      ∃ g, e = .returned (.slice (some ⟨g, 0, none⟩) N N) ∧ w.heap.size ≤ g ∧ w'.rowIs g 35 N (partOf cs bs) ∧ Below w.heap.size w w' := by
  have hvt' := hvt
  obtain ⟨at_, lt_, ct_, rfl⟩ := hvt'
  have hbw : Below w.heap.size w (w.alloc (.cells #[.int .i64 N, .int .i64 f, .int .i64 k, .slice ac lc lc, .slice ab lb lb, .slice at_ lt_ ct_, .int .i64 p, .int .i64 q, .int .u64 s, .int .i64 t, .int .i64 u] 31)) := (Below.refl _ _).alloc (Nat.le_refl _) _
  go_enter Try.func10, Try.ntmps10
  go_wp2_with fail
  refine (parts_any N f k ac ab lc lb cs bs (.slice at_ lt_ ct_) p q s t u _ hN hlc hlb ⟨_, _, _, rfl⟩ (hc.below hbw) (hb.below hbw) ic ib).mono ?_
  rintro e w1 ⟨g, rfl, hg, hrow, hbel⟩
  have hg' : w.heap.size ≤ g := by simp at hg; omega
  have HB := hide (hbw.trans (hbel.mono (by simp)))
  clear hbel hbw
  go_wp2
  go_ret
  exact ⟨g, rfl, hg', hrow, HB.out⟩

section
variable (n f k : Int) (a3 a4 a5 : Option Addr) (l3 c3 l4 c4 l5 c5 : Nat) (p q s t u : Int) (w : World)

theorem pp_huge (h3 : l3 ≤ maxLen) (h4 : l4 ≤ maxLen) (h5 : l5 ≤ maxLen) (hs : ¬ l3 + l4 + l5 ≤ 1048576) :
    Calls Try.prog 3 #[.int .i64 n, .int .i64 f, .int .i64 k, .slice a3 l3 c3, .slice a4 l4 c4, .slice a5 l5 c5, .int .i64 p, .int .i64 q, .int .u64 s, .int .i64 t, .int .i64 u] w fun e w' => e = .returned (.bool true) ∧ Below w.heap.size w w' := by
  have hd : decide (l3 + l4 + l5 ≤ 1048576) = false := decide_eq_false hs
  go_enter Try.func3, Try.ntmps3
  go_wp2_with fail
  refine (zz7 n f k a3 a4 a5 l3 c3 l4 c4 l5 c5 p q s t u w h3 h4 h5).mono ?_
  rintro e w' ⟨rfl, rfl⟩
  rw [hd]
  go_wp2
  go_ret
  exact ⟨rfl, Below.refl _ _⟩

theorem pp_long (h3 : l3 ≤ maxLen) (h4 : l4 ≤ maxLen) (h5 : l5 ≤ maxLen) (hs : l3 + l4 + l5 ≤ 1048576) (hl : ¬ l3 + l4 + l5 ≤ 131072) :
    Calls Try.prog 3 #[.int .i64 n, .int .i64 f, .int .i64 k, .slice a3 l3 c3, .slice a4 l4 c4, .slice a5 l5 c5, .int .i64 p, .int .i64 q, .int .u64 s, .int .i64 t, .int .i64 u] w fun e w' => e = .returned (.bool true) ∧ Below w.heap.size w w' := by
  have hd : decide (l3 + l4 + l5 ≤ 1048576) = true := decide_eq_true hs
  rcases Classical.em (131072 < (l3 : Int)) with e3 | e3
  · go_enter Try.func3, Try.ntmps3
    go_wp2_with fail
    refine (zz7 n f k a3 a4 a5 l3 c3 l4 c4 l5 c5 p q s t u w h3 h4 h5).mono ?_
    rintro e w' ⟨rfl, rfl⟩
    rw [hd]
    clear hd
    go_wp2
    go_ret
    exact ⟨rfl, Below.refl _ _⟩
  · rcases Classical.em (131072 < (l4 : Int)) with e4 | e4
    · go_enter Try.func3, Try.ntmps3
      go_wp2_with fail
      refine (zz7 n f k a3 a4 a5 l3 c3 l4 c4 l5 c5 p q s t u w h3 h4 h5).mono ?_
      rintro e w' ⟨rfl, rfl⟩
      rw [hd]
      clear hd
      go_wp2
      go_ret
      exact ⟨rfl, Below.refl _ _⟩
    · rcases Classical.em (131072 < (l5 : Int)) with e5 | e5
      · go_enter Try.func3, Try.ntmps3
        go_wp2_with fail
        refine (zz7 n f k a3 a4 a5 l3 c3 l4 c4 l5 c5 p q s t u w h3 h4 h5).mono ?_
        rintro e w' ⟨rfl, rfl⟩
        rw [hd]
        clear hd
        go_wp2
        go_ret
        exact ⟨rfl, Below.refl _ _⟩
      · go_enter Try.func3, Try.ntmps3
        go_wp2_with fail
        refine (zz7 n f k a3 a4 a5 l3 c3 l4 c4 l5 c5 p q s t u w h3 h4 h5).mono ?_
        rintro e w' ⟨rfl, rfl⟩
        rw [hd]
        clear hd
        go_wp2
        go_ret
        exact ⟨rfl, Below.refl _ _⟩

theorem pp_out (h3 : l3 ≤ maxLen) (h4 : l4 ≤ maxLen) (h5 : l5 ≤ maxLen) (hl : l3 + l4 + l5 ≤ 131072) (hn : n < 0 ∨ 65536 < n) :
    Calls Try.prog 3 #[.int .i64 n, .int .i64 f, .int .i64 k, .slice a3 l3 c3, .slice a4 l4 c4, .slice a5 l5 c5, .int .i64 p, .int .i64 q, .int .u64 s, .int .i64 t, .int .i64 u] w fun e w' => e = .returned (.bool true) ∧ Below w.heap.size w w' := by
  have hd : decide (l3 + l4 + l5 ≤ 1048576) = true := decide_eq_true (by omega)
  rcases hn with hn | hn
  all_goals
    go_enter Try.func3, Try.ntmps3
    go_wp2_with fail
    refine (zz7 n f k a3 a4 a5 l3 c3 l4 c4 l5 c5 p q s t u w h3 h4 h5).mono ?_
    rintro e w' ⟨rfl, rfl⟩
    rw [hd]
    clear hd
    go_wp2
    go_ret
    exact ⟨rfl, Below.refl _ _⟩

variable (z3 z4 z5 : List Int)

theorem pp_ids (N : Nat) (hN : N ≤ 65536) (h3 : Came .i64 w a3 l3 c3 z3) (h4 : Came .i64 w a4 l4 c4 z4) (h5 : Came .i64 w a5 l5 c5 z5) (hl : l3 + l4 + l5 ≤ 131072)
    (hi : allIn N (z3.take l3) = false ∨ (allIn N (z3.take l3) = true ∧ allIn N (z4.take l4) = false)) :
    Calls Try.prog 3 #[.int .i64 N, .int .i64 f, .int .i64 k, .slice a3 l3 c3, .slice a4 l4 c4, .slice a5 l5 c5, .int .i64 p, .int .i64 q, .int .u64 s, .int .i64 t, .int .i64 u] w fun e w' => e = .returned (.bool true) ∧ Below w.heap.size w w' := by
  have hd : decide (l3 + l4 + l5 ≤ 1048576) = true := decide_eq_true (by omega)
  rcases hi with hi | ⟨hi, hi2⟩
  · go_enter Try.func3, Try.ntmps3
    go_wp2_with fail
    refine (zz7 N f k a3 a4 a5 l3 c3 l4 c4 l5 c5 p q s t u w h3.max h4.max h5.max).mono ?_
    rintro e w' ⟨rfl, rfl⟩
    rw [hd]
    clear hd
    go_wp2_with fail
    refine (ids_any a3 l3 c3 z3 N w h3 (by omega)).mono ?_
    rintro e w' ⟨rfl, rfl⟩
    rw [hi]
    clear hi
    go_wp2_with fail
    go_ret
    exact ⟨rfl, Below.refl _ _⟩
  · go_enter Try.func3, Try.ntmps3
    go_wp2_with fail
    refine (zz7 N f k a3 a4 a5 l3 c3 l4 c4 l5 c5 p q s t u w h3.max h4.max h5.max).mono ?_
    rintro e w' ⟨rfl, rfl⟩
    rw [hd]
    clear hd
    go_wp2_with fail
    refine (ids_any a3 l3 c3 z3 N w h3 (by omega)).mono ?_
    rintro e w' ⟨rfl, rfl⟩
    rw [hi]
    clear hi
    go_wp2_with fail
    refine (ids_any a4 l4 c4 z4 N w h4 (by omega)).mono ?_
    rintro e w' ⟨rfl, rfl⟩
    rw [hi2]
    clear hi2
    go_wp2_with fail
    go_ret
    exact ⟨rfl, Below.refl _ _⟩

set_option maxHeartbeats 4000000 in
theorem pp_main (N : Nat) (hN : N ≤ 65536) (h3 : Came .i64 w a3 l3 c3 z3) (h4 : Came .i64 w a4 l4 c4 z4) (h5 : Came .i64 w a5 l5 c5 z5) (hl : l3 + l4 + l5 ≤ 131072)
    (hi : allIn N (z3.take l3) = true) (hi2 : allIn N (z4.take l4) = true) :
    Calls Try.prog 3 #[.int .i64 N, .int .i64 f, .int .i64 k, .slice a3 l3 c3, .slice a4 l4 c4, .slice a5 l5 c5, .int .i64 p, .int .i64 q, .int .u64 s, .int .i64 t, .int .i64 u] w fun e w' => e = .returned (.bool true) ∧ Below w.heap.size w w' := by
  have hd : decide (l3 + l4 + l5 ≤ 1048576) = true := decide_eq_true (by omega)
  have hmk := fun w => run_make_row' (P := Try.prog) 34 4 (.bool false) 1 Try.underlying34 Try.info4 rfl .i64 .i64 N (by omega) (by omega) w
  have hnn : ((N : Int) != (N : Int)) = false := by simp
  go_enter Try.func3, Try.ntmps3
  go_wp2_with fail
  refine (zz7 N f k a3 a4 a5 l3 c3 l4 c4 l5 c5 p q s t u w h3.max h4.max h5.max).mono ?_
  rintro e w' ⟨rfl, rfl⟩
  rw [hd]
  clear hd
  go_wp2_with fail
  refine (ids_any a3 l3 c3 z3 N w h3 (by omega)).mono ?_
  rintro e w' ⟨rfl, rfl⟩
  rw [hi]
  go_wp2_with fail
  refine (ids_any a4 l4 c4 z4 N w h4 (by omega)).mono ?_
  rintro e w' ⟨rfl, rfl⟩
  rw [hi2]
  have I1 := hide hi
  have I2 := hide hi2
  clear hi hi2
  go_wp2_with fail
  refine (clone_own a3 l3 c3 z3 w h3 (by omega)).mono ?_
  rintro e w1 ⟨b3, rfl, o3, hb1⟩
  go_wp2_with fail
  refine (clone_own a4 l4 c4 z4 w1 (h4.below hb1) (by omega)).mono ?_
  rintro e w2 ⟨b4, rfl, o4, hb2⟩
  go_wp2_with fail
  refine (clone_own a5 l5 c5 z5 w2 ((h5.below hb1).below hb2) (by omega)).mono ?_
  rintro e w3 ⟨b5, rfl, o5, hb3⟩
  have o3' := (o3.below hb2).below hb3
  have o4' := o4.below hb3
  have hbw := (hb1.trans (hb2.mono hb1.size)).trans (hb3.mono (Nat.le_trans hb1.size hb2.size))
  clear o3 o4 o5 hb1 hb2 hb3 h3 h4 h5
  generalize z3.take l3 = cs at *
  generalize z4.take l4 = bs at *
  go_wp2_with fail
  have hb4 : Below w3.heap.size w3 (w3.alloc (.cells #[.int .i64 N, .int .i64 f, .int .i64 k, .slice b3 l3 l3, .slice b4 l4 l4, .slice b5 l5 l5, .int .i64 p, .int .i64 q, .int .u64 s, .int .i64 t, .int .i64 u] 31)) := (Below.refl _ _).alloc (Nat.le_refl _) _
  refine (zzParts_any N f k b3 b4 l3 l4 cs bs (.slice b5 l5 l5) p q s t u _ hN (by omega) (by omega) ⟨_, _, _, rfl⟩ (o3'.below hb4) (o4'.below hb4) I1.out I2.out).mono ?_
  rintro e w4 ⟨g, rfl, hg, hrow, hbel⟩
  have O3 := hide ((o3'.below hb4).below hbel)
  have O4 := hide ((o4'.below hb4).below hbel)
  have HBW := hide ((hbw.trans (hb4.mono hbw.size)).trans (hbel.mono (Nat.le_trans hbw.size hb4.size)))
  have HROW := hide hrow
  have hglt := hrow.lt
  clear o3' o4' hbw hb4 hbel hrow hg
  have hm1 := World.rowIs_made w4 (.bool false) N 4
  have hm2 := World.rowIs_made (w4.alloc (.cells (madeCells #[.bool false] N) 4)) (.bool false) N 4
  rw [show (w4.alloc (.cells (madeCells #[.bool false] N) 4)).heap.size = w4.heap.size + 1 by simp] at hm2
  have hm1' := hm1.alloc (.cells (madeCells #[.bool false] N) 4)
  have hb0 : Below w4.heap.size w4 ((w4.alloc (.cells (madeCells #[.bool false] N) 4)).alloc (.cells (madeCells #[.bool false] N) 4)) := ((Below.refl _ _).alloc (Nat.le_refl _) _).alloc (by simp) _
  have M1 := hide hm1'
  have M2 := hide hm2
  clear hm1 hm2 hm1'
  go_wp2
  clear hmk
  go_loopw [27] (fun i wr => ∃ j : Nat, j ≤ l3 ∧ i = .int .i64 j ∧ wr.rowIs w4.heap.size 4 N (mk (fun _ => .bool false) cs (.bool true) j) ∧ wr.rowIs (w4.heap.size + 1) 4 N (fun _ => .bool false) ∧ Below w4.heap.size w4 wr) (fun i _ => l3 - (intOf i).toNat)
  case atStart => exact ⟨0, Nat.zero_le _, rfl, M1.out.congr (fun i _ => by rw [mk_zero]), M2.out, hb0⟩
  case round =>
    clear hb0 M1 M2
    obtain ⟨j, hj, rfl, hrow, hrow2, hbel⟩ := hrel
    have hlen := O3.out.1
    by_cases hlt : j < l3
    · obtain ⟨b, rfl, hblt, hcl⟩ := O3.out.at hlt
      obtain ⟨m, hm, hmN⟩ := allIn_get I1.out (k := j) (by omega)
      have hck : wr.cell? ⟨b, j, none⟩ = some (.int .i64 m) := by rw [← hm]; exact (hbel.cell (p := ⟨b, j, none⟩) hblt).trans hcl
      have hdst : wr.cell? ⟨w4.heap.size, m, none⟩ = some (mk (fun _ => .bool false) cs (.bool true) j m) := hrow.cell hmN
      have hfr : wr.frozen? ⟨w4.heap.size, m, none⟩ = false := hrow.frozen m
      have HR := hide hrow
      have HR2 := hide hrow2
      have HM := hide hm
      generalize mk (fun _ => .bool false) cs (.bool true) j m = old at hdst
      clear hrow hrow2 hm hcl
      go_wp2
      go_roundw
      case rel => exact ⟨j + 1, by omega, by go_num, (HR.out.set m _).congr (fun i _ => mk_step (by omega) HM.out.symm i), HR2.out.setOther (by simp) _, hbel.setCell (by simp) _⟩
      case measure => simp [intOf]; omega
    · have HR := hide (hrow.congr (fun i _ => mk_all (by omega) i))
      have HR2 := hide hrow2
      clear hrow hrow2
      go_wp2
      go_loopw [28] (fun i wv => ∃ j : Nat, j ≤ l4 ∧ i = .int .i64 j ∧ wv.rowIs (w4.heap.size + 1) 4 N (mk (fun _ => .bool false) bs (.bool true) j) ∧ wv.rowIs w4.heap.size 4 N (fun i => if (i : Int) ∈ cs then .bool true else .bool false) ∧ Below w4.heap.size w4 wv) (fun i _ => l4 - (intOf i).toNat)
      case atStart => exact ⟨0, Nat.zero_le _, rfl, HR2.out.congr (fun i _ => by rw [mk_zero]), HR.out, hbel⟩
      case round =>
        clear HR HR2 hbel
        obtain ⟨j2, hj2, rfl, hrow, hrow1, hbel⟩ := hrel
        have hlen2 := O4.out.1
        by_cases hlt2 : j2 < l4
        · obtain ⟨b, rfl, hblt, hcl⟩ := O4.out.at hlt2
          obtain ⟨m, hm, hmN⟩ := allIn_get I2.out (k := j2) (by omega)
          have hck : wr.cell? ⟨b, j2, none⟩ = some (.int .i64 m) := by rw [← hm]; exact (hbel.cell (p := ⟨b, j2, none⟩) hblt).trans hcl
          have hdst : wr.cell? ⟨w4.heap.size + 1, m, none⟩ = some (mk (fun _ => .bool false) bs (.bool true) j2 m) := hrow.cell hmN
          have hfr : wr.frozen? ⟨w4.heap.size + 1, m, none⟩ = false := hrow.frozen m
          have HR := hide hrow
          have HR1 := hide hrow1
          have HM := hide hm
          generalize mk (fun _ => .bool false) bs (.bool true) j2 m = old at hdst
          clear hrow hrow1 hm hcl
          go_wp2
          go_roundw
          case rel => exact ⟨j2 + 1, by omega, by go_num, (HR.out.set m _).congr (fun i _ => mk_step (by omega) HM.out.symm i), HR1.out.setOther (by simp) _, hbel.setCell (by simp) _⟩
          case measure => simp [intOf]; omega
        · have HR := hide (hrow.congr (fun i _ => mk_all (by omega) i))
          have HR1 := hide hrow1
          have HG := hide (HROW.out.of_block (hbel.block g hglt))
          have HBE := hide (HBW.out.trans (hbel.mono HBW.out.size))
          clear hrow hrow1 HROW HBW hbel
          go_wp2
          go_loop [29] (fun i => ∃ j : Nat, j ≤ N ∧ i = .int .i64 j) (fun i => N - (intOf i).toNat)
          case atStart => exact ⟨0, Nat.zero_le _, rfl⟩
          case round =>
            obtain ⟨i, hi, rfl⟩ := hrel
            by_cases hiN : i < N
            · have g0 := HG.out.cell hiN
              have g1 := HR1.out.cell hiN
              have g2 := HR.out.cell hiN
              unfold partOf at g0
              by_cases hB : (i : Int) ∈ bs
              · rw [if_pos hB] at g0 g2
                clear g1 hB
                go_wp2
                go_round
                case rel => exact ⟨i + 1, by omega, by go_num⟩
                case measure => simp [intOf]; omega
              · rw [if_neg hB] at g0 g2
                clear hB
                by_cases hC : (i : Int) ∈ cs
                · rw [if_pos hC] at g0 g1
                  clear hC
                  go_wp2
                  go_round
                  case rel => exact ⟨i + 1, by omega, by go_num⟩
                  case measure => simp [intOf]; omega
                · rw [if_neg hC] at g0 g1
                  clear hC
                  go_wp2
                  go_round
                  case rel => exact ⟨i + 1, by omega, by go_num⟩
                  case measure => simp [intOf]; omega
            · go_wp2
              go_ret
              exact ⟨rfl, HBE.out⟩

theorem pp_any (hn : (Lit.int .i64 n).wf = true) (h3 : Came .i64 w a3 l3 c3 z3) (h4 : Came .i64 w a4 l4 c4 z4) (h5 : Came .i64 w a5 l5 c5 z5) :
    Calls Try.prog 3 #[.int .i64 n, .int .i64 f, .int .i64 k, .slice a3 l3 c3, .slice a4 l4 c4, .slice a5 l5 c5, .int .i64 p, .int .i64 q, .int .u64 s, .int .i64 t, .int .i64 u] w fun e w' => e = .returned (.bool true) ∧ Below w.heap.size w w' := by
  by_cases hs : l3 + l4 + l5 ≤ 1048576
  · by_cases hl : l3 + l4 + l5 ≤ 131072
    · by_cases ho : n < 0 ∨ 65536 < n
      · exact pp_out n f k a3 a4 a5 l3 c3 l4 c4 l5 c5 p q s t u w h3.max h4.max h5.max hl ho
      · obtain ⟨N, rfl⟩ : ∃ N : Nat, n = N := ⟨n.toNat, by omega⟩
        cases hi : allIn N (z3.take l3) with
        | false => exact pp_ids f k a3 a4 a5 l3 c3 l4 c4 l5 c5 p q s t u w z3 z4 z5 N (by omega) h3 h4 h5 hl (.inl hi)
        | true =>
          cases hi2 : allIn N (z4.take l4) with
          | false => exact pp_ids f k a3 a4 a5 l3 c3 l4 c4 l5 c5 p q s t u w z3 z4 z5 N (by omega) h3 h4 h5 hl (.inr ⟨hi, hi2⟩)
          | true => exact pp_main f k a3 a4 a5 l3 c3 l4 c4 l5 c5 p q s t u w z3 z4 z5 N (by omega) h3 h4 h5 hl hi hi2
    · exact pp_long n f k a3 a4 a5 l3 c3 l4 c4 l5 c5 p q s t u w h3.max h4.max h5.max hs hl
  · exact pp_huge n f k a3 a4 a5 l3 c3 l4 c4 l5 c5 p q s t u w h3.max h4.max h5.max hs

end
end Go.Proofs.Qxb6601755a
