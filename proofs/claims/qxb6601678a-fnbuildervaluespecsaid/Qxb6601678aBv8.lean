/-
  matchValue.
-/
import Derived.Test.Qxb6601678aBv9
import Derived.Deep.CutBlock
namespace Go.Proofs.Qxb6601678a.Bv
open Go.RowKit Go.ChangeShapes Go.WideShapes Go.ChangeAt
set_option linter.unusedVariables false
set_option linter.unusedSimpArgs false
set_option maxRecDepth 100000

attribute [local go_sem] run_store_float

/-- the head token, as the matcher reads it -/
theorem MI.head {toks : List Tok} {gL : Nat} {rawV : Value} {rl : List Int} {w : World} {t : Tok} {ts : List Tok} (h : MI toks gL rawV rl w) (hs : Suf toks (t :: ts)) :
    w.cell? ⟨gL, (toks.length - (ts.length + 1)) * 8, none⟩ = some (.int .u8 t.kind) ∧ w.cell? ⟨gL, (toks.length - (ts.length + 1)) * 8 + 1, none⟩ = some (.bool t.attr) ∧ w.cell? ⟨gL, (toks.length - (ts.length + 1)) * 8 + 2, none⟩ = some (.int .i64 t.count) := by
  have hr := h.row.head hs.at
  simp only [Nat.zero_add] at hr
  exact ⟨hr.1, hr.2.1, hr.2.2.1⟩

/-- the attribute that is met next, among all of them -/
theorem att_at {R f j : Nat} {es : List (List Tok)} {t : Tok} {cur' : List Tok} {L : List (List Tok)} (hL : es ++ (atl R (f + 1) (t :: cur')).1 = L) (hat : t.attr = true) (hj : j < (half t).toNat) : es.length + j < L.length ∧ L.getD (es.length + j) [] = aft R cur' (2 * j) := by
  rw [atl_attr hat] at hL
  subst hL
  refine ⟨by simp; omega, ?_⟩
  simp only [List.getD]
  rw [List.getElem?_append_right (by omega), show es.length + j - es.length = j by omega, List.getElem?_append_left (by simp; omega)]
  simp [hj]

set_option maxHeartbeats 8000000 in
theorem match_step {toks : List Tok} {gL : Nat} {rawV : Value} {rl : List Int} {keep : Bool} {F : Nat} (hm : MC toks gL rawV rl keep F) (hwf : ∀ t ∈ toks, TokWf t) (hn : toks.length ≤ 32768) (hrl : rl.length ≤ 1048576) : MC toks gL rawV rl keep (F + 1) := by
  intro cs ts r w lo hi hvt hhi hs he hmi
  obtain ⟨k1, b1, n1, x1, s1, m1, p1, q1, r1, p2, q2, r2, p3, q3, r3, hcc⟩ := hvt.cells
  obtain ⟨t0, ms, iv, ev, av, ha1, ha2, hok, hcs, hseq, hmap, hatt⟩ := hvt
  have hi6 : iv = .slice p1 q1 r1 := by rw [hcc] at hcs; injection hcs with _ h; injection h with _ h; injection h with _ h; injection h with _ h; injection h with _ h; injection h with _ h; injection h with h _; exact h.symm
  have hi7 : ev = .slice p2 q2 r2 := by rw [hcc] at hcs; injection hcs with _ h; injection h with _ h; injection h with _ h; injection h with _ h; injection h with _ h; injection h with _ h; injection h with _ h; injection h with h _; exact h.symm
  have hi9 : av = .slice p3 q3 r3 := by rw [hcc] at hcs; injection hcs with _ h; injection h with _ h; injection h with _ h; injection h with _ h; injection h with _ h; injection h with _ h; injection h with _ h; injection h with _ h; injection h with _ h; injection h with h _; exact h.symm
  clear hcc
  subst hi6 hi7 hi9 hcs
  have hsle := hs.le
  have HM := hide hm
  have HWF := hide hwf
  have HS := hide hs
  have HE := hide he
  have HMI := hide (hmi.below (below_alloc w (.cells #[.int .u8 t0.kind, .bool (vBool t0), .int .i64 (vInt t0), .float .f64 (vFloat t0), .string (vStr (strOfNums rl) t0), .string (vFmt (strOfNums rl) t0), .slice p1 q1 r1, .slice p2 q2 r2, .slice none 0 0, .slice p3 q3 r3] 46)))
  have HA1 := hide ha1
  have HA2 := hide ha2
  have HOK := hide hok
  have HSQ := hide hseq
  have HMP := hide hmap
  have HAT := hide hatt
  have hpn : toks.length - ts.length ≤ 32768 := by omega
  clear hm hwf hs he hmi ha1 ha2 hok hseq hmap hatt
  go_enter Try.func28, Try.ntmps28
  go_upto_block 0 with fail
  go_cut [2, 11] from 26 to 76 (fun pv nv wx => pv = .int .i64 ((toks.length - (ms.length + 1) : Nat) : Int) ∧ nv = .int .i64 ((atl rl.length ts.length ts).1.length : Int) ∧ Below (w.heap.size + 1) (w.alloc (.cells #[.int .u8 t0.kind, .bool (vBool t0), .int .i64 (vInt t0), .float .f64 (vFloat t0), .string (vStr (strOfNums rl) t0), .string (vFmt (strOfNums rl) t0), .slice p1 q1 r1, .slice p2 q2 r2, .slice none 0 0, .slice p3 q3 r3] 46)) wx ∧ Suf toks (t0 :: ms) ∧ Hid (ext rl.length (t0 :: ms) 1 = some r))
  case first =>
    as_aux_lemma =>
    go_wp2_with fail
    go_loopw [2, 11] (fun pv nv wr => ∃ (f : Nat) (cur : List Tok) (es : List (List Tok)), cur.length ≤ f ∧ es.length + cur.length ≤ ts.length ∧ Hid (es ++ (atl rl.length f cur).1 = (atl rl.length ts.length ts).1 ∧ (atl rl.length f cur).2 = (atl rl.length ts.length ts).2) ∧ Suf toks cur ∧ Hid (ext rl.length cur 1 = some r) ∧ pv = .int .i64 ((toks.length - cur.length : Nat) : Int) ∧ nv = .int .i64 (es.length : Int) ∧ Below (w.heap.size + 1) (w.alloc (.cells #[.int .u8 t0.kind, .bool (vBool t0), .int .i64 (vInt t0), .float .f64 (vFloat t0), .string (vStr (strOfNums rl) t0), .string (vFmt (strOfNums rl) t0), .slice p1 q1 r1, .slice p2 q2 r2, .slice none 0 0, .slice p3 q3 r3] 46)) wr) (fun pv _ _ => toks.length - (intOf pv).toNat)
    case atStart => exact ⟨ts.length, ts, [], Nat.le_refl _, by simp, ⟨by simp, rfl⟩, HS.out, HE.out, rfl, rfl, Below.refl _ _⟩
    case round =>
      obtain ⟨f, cur, es, hcf, hcl, HL, hsu, HX, rfl, rfl, hbe⟩ := hrel
      obtain ⟨t, cur', rfl⟩ : ∃ t cur', cur = t :: cur' := by
        cases cur with
        | nil => exact absurd HX.out (by simp [ext])
        | cons t c => exact ⟨t, c, rfl⟩
      have hmi2 := HMI.out.below (by simpa using hbe)
      obtain ⟨d1, d2, d3⟩ := hmi2.head hsu
      obtain ⟨wk, wct, wf, wo⟩ := HWF.out t (List.mem_of_getElem? hsu.at)
      have hle1 := hsu.le
      rw [List.length_cons] at hle1 hcf hcl ⊢
      obtain ⟨P, hP⟩ : ∃ P, P = toks.length - (cur'.length + 1) := ⟨_, rfl⟩
      have hP1 : P + 1 = toks.length - cur'.length := by omega
      have hPn : (P : Int) < toks.length := by omega
      rw [← hP] at d1 d2 d3 ⊢
      have HP := hide hP
      have HP1 := hide hP1
      clear hP hP1
      have HBE := hide hbe
      have HMW := hide hmi2
      have HSU := hide hsu
      clear hbe hmi2 hsu
      rcases hat : t.attr with _ | _
      · rw [hat] at d2
        have HLL : Hid (es = (atl rl.length ts.length ts).1 ∧ t = t0 ∧ cur' = ms) := by
          have h1 := HL.out.1
          have h2 := HL.out.2
          rw [atl_main hat] at h1 h2
          rw [HA1.out] at h2
          injection h2 with e1 e2
          exact ⟨by simpa using h1, e1, e2⟩
        clear hat
        go_wp2_with fail
        go_meet
        case rel => exact ⟨by rw [HP.out, HLL.out.2.2], by rw [HLL.out.1], HBE.out, by rw [← HLL.out.2.1, ← HLL.out.2.2]; exact HSU.out, by rw [← HLL.out.2.1, ← HLL.out.2.2]; exact HX⟩
      · rw [hat] at d2
        obtain ⟨f', rfl⟩ : ∃ f', f = f' + 1 := ⟨f - 1, by omega⟩
        obtain ⟨q, hqq⟩ : ∃ q, q = t.count.tdiv 2 := ⟨_, rfl⟩
        have hqr := half_range wct
        rw [← hqq] at hqr
        have HQ : Hid (half t = q) := hqq.symm
        have hq : t.count.tdiv 2 = q := hqq.symm
        have HX1 : Hid (ext rl.length cur' (1 + 2 * q.toNat) = some r) := by
          have := HX.out
          rw [ext_attr (by omega) hat, HQ.out] at this
          exact this
        have hq1 : 2 * q.toNat + 1 ≤ cur'.length := by have := ext_len _ _ _ HX1.out; omega
        have HAA := hide hat
        have hkk : (q.toNat : Int) = q ∨ q < 0 := by omega
        clear hqq hat HX
        go_wp2_with fail
        go_loopw [2, 11, 13] (fun pv nv jv wv => ∃ j : Nat, j ≤ q.toNat ∧ jv = .int .i64 (j : Int) ∧ pv = .int .i64 ((toks.length - (aft rl.length cur' (2 * j)).length : Nat) : Int) ∧ nv = .int .i64 ((es.length + j : Nat) : Int) ∧ Below (w.heap.size + 1) (w.alloc (.cells #[.int .u8 t0.kind, .bool (vBool t0), .int .i64 (vInt t0), .float .f64 (vFloat t0), .string (vStr (strOfNums rl) t0), .string (vFmt (strOfNums rl) t0), .slice p1 q1 r1, .slice p2 q2 r2, .slice none 0 0, .slice p3 q3 r3] 46)) wv) (fun _ _ jv _ => q.toNat - (intOf jv).toNat)
        case atStart => exact ⟨0, Nat.zero_le _, rfl, by rw [Nat.mul_zero, aft_zero, ← HP1.out]; rfl, rfl, HBE.out⟩
        case round =>
          clear HBE HMW d1 d2 d3
          obtain ⟨j, hj, rfl, rfl, rfl, hbe⟩ := hrel
          have hmi2 := HMI.out.below (by simpa using hbe)
          have hbw : Below w.heap.size w wr := (below_alloc w _).trans (hbe.mono (by omega))
          have hp := ext_part HX1.out (k := 2 * j) (by omega)
          have hsx := HSU.out.tail.ext hp.1
          have hsl := hsx.le
          have hc9 : wr.cell? ⟨w.heap.size, 9, none⟩ = some (.slice p3 q3 r3) := by
            rw [hbe.cell (p := ⟨w.heap.size, 9, none⟩) (Nat.lt_succ_self _), blk_cell (Go.Deep.blk_alloc_new _ _)]
            rfl
          have HSZ := hide hbe.size
          obtain ⟨P', hP'⟩ : ∃ P', P' = toks.length - (aft rl.length cur' (2 * j)).length := ⟨_, rfl⟩
          have HP' := hide hP'
          have hPl : P' ≤ toks.length := by omega
          have HBE := hide hbe
          have HBW := hide hbw
          have HMW := hide hmi2
          have HSX := hide hsx
          have HEP := hide hp
          clear hbe hbw hmi2 hsx hp
          rw [← HP'.out]
          by_cases hlt : j < q.toNat
          · have hpj : (j : Int) < q := by omega
            have HS2 := hide (ext_step2 HX1.out (k := 2 * j) (by omega))
            have hsl2 := ext_len _ _ _ HS2.out
            have hnn : es.length + j ≤ 32768 := by omega
            obtain ⟨hlt2, hgd⟩ := att_at HL.out.1 HAA.out (j := j) (by rw [HQ.out]; exact hlt)
            obtain ⟨P'', hP''⟩ : ∃ P'', P'' = toks.length - (aft rl.length cur' (2 * j + 2)).length := ⟨_, rfl⟩
            have HPP := hide hP''
            have hPk : P'' ≤ 32768 := by omega
            cases keep with
            | false =>
              have HEX := hide (extent_row gL 0 toks.length toks.length toks P' 2 rl.length wr rfl hn hrl HMW.out.gl HMW.out.row HWF.out hPl (by omega))
              have hexv : extI rl.length toks.length (toks.drop P') 2 = (P'' : Int) := by
                unfold extI
                rw [HP'.out, HSX.out.drop, HS2.out, hP'']
                simp
                omega
              rw [hexv] at HEX
              obtain ⟨ra, hra⟩ := HMW.out.raw.slice
              clear hexv hP' hP'' hgd hc9
              subst hra
              go_wp2_with fail
              refine (HEX.out).mono ?_
              rintro e w1 ⟨rfl, hb1⟩
              have HB1 := hide hb1
              clear hb1
              go_wp2_with fail
              go_roundw
              case rel => exact ⟨j + 1, by omega, by go_num, by rw [HPP.out]; rfl, by go_num, HBE.out.trans (below_less HB1.out (by simpa using HSZ.out))⟩
              case measure => simp [intOf]; omega
            | true =>
              obtain ⟨g, cap, hsl', hg1, hg2, hg3, hg4, hgc⟩ := HAT.out.1 ⟨rfl, fun e => by rw [e] at hlt2; simp at hlt2⟩
              cases hsl'
              obtain ⟨c, hc1, hc2, hc3, hc4⟩ := hgc (es.length + j) hlt2
              rw [hgd] at hc3 hc4
              have HRG : Hid (wr.rangeAt g ((es.length + j) * 20) c) := fun i u hu => by
                rw [World.cell?_of_block (w := w) (a := ⟨g, (es.length + j) * 20 + i, none⟩) (HBW.out.block g (by omega))]
                exact hc2 i u hu
              have HCL := hide hc1
              have HC3 := hide hc3
              have HC4 := hide hc4
              have HLT := hide hlt2
              obtain ⟨L, hL⟩ : ∃ L, L = (atl rl.length ts.length ts).1.length := ⟨_, rfl⟩
              rw [← hL] at hc9 hlt2 hg3
              have hL1 : L ≤ 9223372036854775807 := Nat.le_trans hg3 (Nat.le_trans hg4 (by decide))
              have HME := hide (mentry_any HM.out c _ _ wr lo hi hc1 (hc3.stays _ (Nat.le_refl _) (Nat.le_refl _) (fun g _ hg => HBW.out.block g (by omega))) (hc4.stays _ (Nat.le_refl _) (Nat.le_refl _) (fun g _ hg => HBW.out.block g (by omega))) (Nat.le_trans hhi HBW.out.size) HSX.out HS2.out HMW.out hn)
              rw [← HP'.out, ← HPP.out] at HME
              clear hL hgc hc2 hc3 hc4 hgd hP' hP''
              go_wp2_with (refine wpList_load_mid rfl 64 (.tmp 61) rfl g ((es.length + j) * 20) (by rfl) c _ (by exact HRG.out) Try.underlying64 (by rfl) (by rw [HCL.out]; kernel_rfl) ?_)
              refine (HME.out).mono ?_
              rintro e w1 ⟨rfl, hb1⟩
              have HB1 := hide hb1
              clear hb1
              go_wp2_with fail
              go_roundw
              case rel => exact ⟨j + 1, by omega, by go_num, by rw [HPP.out]; rfl, by go_num, HBE.out.trans (below_less HB1.out (by simpa using HSZ.out))⟩
              case measure => simp [intOf]; omega
          · have hpj : ¬ (j : Int) < q := by omega
            obtain rfl : j = q.toNat := by omega
            clear hP' hc9
            go_wp2_with fail
            go_roundw
            case rel => exact ⟨f', aft rl.length cur' (2 * q.toNat), es ++ (List.range q.toNat).map (fun j => aft rl.length cur' (2 * j)), by have := aft_len HX1.out (k := 2 * q.toNat) (by omega); omega, by have := aft_len HX1.out (k := 2 * q.toNat) (by omega); simp; omega, by
              have h := HL.out
              rw [atl_attr HAA.out, HQ.out] at h
              exact ⟨by rw [List.append_assoc]; exact h.1, h.2⟩, HSX.out, by
              have h := HEP.out.2
              rw [show 1 + 2 * q.toNat - 2 * q.toNat = 1 by omega] at h
              exact h, by rw [HP'.out], by simp, HBE.out⟩
            case measure => have := aft_len HX1.out (k := 2 * q.toNat) (by omega); have := HP.out; have := HP'.out; simp [intOf]; omega
  case rest =>
    as_aux_lemma =>
    obtain ⟨rfl, rfl, hbe, hsu, HX⟩ := hcut
    obtain ⟨wA, hwA⟩ : ∃ x : World, x = wc := ⟨_, rfl⟩
    subst hwA
    have HWT : Hid (∃ W : Bool, (W = true → (p3 = none ∧ q3 = 0 ∧ r3 = 0) ∧ (keep = false ∨ (atl rl.length ts.length ts).1.length = 0)) ∧ (W = false → keep = true ∧ (atl rl.length ts.length ts).1.length ≠ 0 ∧ ∃ g, p3 = some g ∧ q3 = (atl rl.length ts.length ts).1.length)) := by
      by_cases hk : keep = true ∧ (atl rl.length ts.length ts).1 ≠ []
      · obtain ⟨g, cap, hsl, _⟩ := HAT.out.1 hk
        injection hsl with a1 a2 a3
        exact ⟨false, (fun h => by cases h), fun _ => ⟨hk.1, fun e => hk.2 (List.eq_nil_of_length_eq_zero e), _, a1, a2⟩⟩
      · have h := HAT.out.2 hk
        injection h with a1 a2 a3
        refine ⟨true, fun _ => ⟨⟨a1, a2, a3⟩, ?_⟩, fun h => by cases h⟩
        cases keep with
        | false => exact .inl rfl
        | true => right; by_cases e : (atl rl.length ts.length ts).1 = []
                  · rw [e]; rfl
                  · exact absurd ⟨rfl, e⟩ hk
    obtain ⟨W, HW1, HW2⟩ := HWT.out
    replace HW1 := hide HW1
    replace HW2 := hide HW2
    clear HWT HAT
    obtain ⟨E, hE⟩ : ∃ E, E = (atl rl.length ts.length ts).1.length := ⟨_, rfl⟩
    rw [← hE] at HW1 HW2 ⊢
    clear hE
    have hb46 : wA.heap[w.heap.size]? = some (.cells #[.int .u8 t0.kind, .bool (vBool t0), .int .i64 (vInt t0), .float .f64 (vFloat t0), .string (vStr (strOfNums rl) t0), .string (vFmt (strOfNums rl) t0), .slice p1 q1 r1, .slice p2 q2 r2, .slice none 0 0, .slice p3 q3 r3] 46 (0, 0)) := (hbe.block _ (Nat.lt_succ_self _)).trans (Go.Deep.blk_alloc_new _ _)
    have v0 : wA.cell? ⟨w.heap.size, 0, none⟩ = some (.int .u8 t0.kind) := blk_cell hb46 0
    have v1 : wA.cell? ⟨w.heap.size, 1, none⟩ = some (.bool (vBool t0)) := blk_cell hb46 1
    have v2 : wA.cell? ⟨w.heap.size, 2, none⟩ = some (.int .i64 (vInt t0)) := blk_cell hb46 2
    have v3 : wA.cell? ⟨w.heap.size, 3, none⟩ = some (.float .f64 (vFloat t0)) := blk_cell hb46 3
    have v4 : wA.cell? ⟨w.heap.size, 4, none⟩ = some (.string (vStr (strOfNums rl) t0)) := blk_cell hb46 4
    have v5 : wA.cell? ⟨w.heap.size, 5, none⟩ = some (.string (vFmt (strOfNums rl) t0)) := blk_cell hb46 5
    have v6 : wA.cell? ⟨w.heap.size, 6, none⟩ = some (.slice p1 q1 r1) := blk_cell hb46 6
    have v7 : wA.cell? ⟨w.heap.size, 7, none⟩ = some (.slice p2 q2 r2) := blk_cell hb46 7
    have v8 : wA.cell? ⟨w.heap.size, 8, none⟩ = some (.slice none 0 0) := blk_cell hb46 8
    have v9 : wA.cell? ⟨w.heap.size, 9, none⟩ = some (.slice p3 q3 r3) := blk_cell hb46 9
    have HBA := hide hbe
    have HSU := hide hsu
    clear hbe hsu hb46
    go_upto_region 18 with fail
    go_cut [14] from 77 to 82 (fun s14 wx => s14 = .bool W ∧ wx = wA)
    case first =>
      as_aux_lemma =>
      cases W with
      | true =>
        rcases (HW1.out rfl).2 with hk | hk
        · subst hk
          go_wp2_with fail
          go_meet
          case rel => exact ⟨rfl, rfl⟩
        · have hE0 : ((E : Int) == 0) = true := by simp [hk]
          clear hk
          cases keep
          all_goals
            go_wp2_with fail
            go_meet
            case rel => exact ⟨rfl, rfl⟩
      | false =>
        obtain ⟨hk, hE⟩ := And.intro (HW2.out rfl).1 (HW2.out rfl).2.1
        subst hk
        have hE' : ((E : Int) == 0) = false := by simp; omega
        clear hE
        go_wp2_with fail
        go_meet
        case rel => exact ⟨rfl, rfl⟩
    case rest =>
      as_aux_lemma =>
      obtain ⟨rfl, rfl⟩ := hcut
      obtain ⟨wA, hwA⟩ : ∃ x : World, x = wc := ⟨_, rfl⟩
      subst hwA
      go_upto_region 19 with fail
      go_cut [87] from 83 to 87 (fun s wx => s = .bool false ∧ wx = wA)
      case first =>
        as_aux_lemma =>
        have hpn : p3.isNone = W := by
          cases W with
          | true => rw [(HW1.out rfl).1.1]; rfl
          | false => obtain ⟨g, hg, _⟩ := (HW2.out rfl).2.2; rw [hg]; rfl
        have hWW : (W != W) = false := by simp
        have hnil : ∀ w, (binOp .eql 43 (.slice p3 q3 r3) (.slice none 0 0)).run Try.prog w = .ok (.bool W) w := fun w => by rw [Lib.run_eql_slice_nil w 43 64 p3 q3 r3 0 0 Try.underlying43, hpn]
        clear hpn
        go_wp2_with fail
        go_meet
        case rel => exact ⟨rfl, rfl⟩
      case rest =>
        as_aux_lemma =>
        obtain ⟨rfl, rfl⟩ := hcut
        obtain ⟨wA, hwA⟩ : ∃ x : World, x = wc := ⟨_, rfl⟩
        subst hwA
        go_upto_region 21 with fail
        go_cut [96] from 88 to 96 (fun s wx => s = .bool false ∧ wx = wA)
        case first =>
          as_aux_lemma =>
          cases W with
          | true =>
            go_wp2_with fail
            go_meet
            case rel => exact ⟨rfl, rfl⟩
          | false =>
            have hEE : ((q3 : Int) != (E : Int)) = false := by
              obtain ⟨g, _, hq⟩ := (HW2.out rfl).2.2
              simp [hq]
            go_wp2_with fail
            go_meet
            case rel => exact ⟨rfl, rfl⟩
        case rest =>
          as_aux_lemma =>
          obtain ⟨rfl, rfl⟩ := hcut
          obtain ⟨wA, hwA⟩ : ∃ x : World, x = wc := ⟨_, rfl⟩
          subst hwA
          clear HW1 HW2 v0 v1 v2 v3 v4 v5 v6 v7 v8 v9
          have hmiA := HMI.out.below (by simpa using HBA.out)
          have hd := hmiA.row.head HSU.out.at
          rw [Nat.zero_add] at hd
          have hle1 := HSU.out.le
          rw [List.length_cons] at hle1
          obtain ⟨P, hP⟩ : ∃ P, P = toks.length - (ms.length + 1) := ⟨_, rfl⟩
          have hP1 : P + 1 = toks.length - ms.length := by omega
          have hPn : (P : Int) < toks.length := by omega
          rw [← hP] at hd ⊢
          obtain ⟨d0, d1, d2, d3, d4, d5, d6, d7⟩ := hd
          have HP := hide hP
          have HP1 := hide hP1
          have HMA := hide hmiA
          clear hP hP1 hmiA
          go_upto_region 25 with fail
          go_cut [15] from 101 to 104 (fun s wx => s = .pointer (some ⟨wA.heap.size, 0, none⟩) ∧ wx = wA.alloc (.cells (tokCells t0).toArray 55))
          case first =>
            as_aux_lemma =>
            go_wp2_with fail
            go_meet
            case rel => exact ⟨rfl, rfl⟩
          case rest =>
            as_aux_lemma =>
            obtain ⟨rfl, hwB⟩ := hcut
            obtain ⟨wB, hwx⟩ : ∃ x : World, x = wc := ⟨_, rfl⟩
            subst hwx
            have hbe : Below (w.heap.size + 1) (w.alloc (.cells #[.int .u8 t0.kind, .bool (vBool t0), .int .i64 (vInt t0), .float .f64 (vFloat t0), .string (vStr (strOfNums rl) t0), .string (vFmt (strOfNums rl) t0), .slice p1 q1 r1, .slice p2 q2 r2, .slice none 0 0, .slice p3 q3 r3] 46)) wB := by rw [hwB]; exact HBA.out.alloc (by simpa using HBA.out.size) _
            have hmiB : MI toks gL rawV rl wB := by rw [hwB]; exact HMA.out.below (below_alloc _ _)
            have hb55 : wB.heap[wA.heap.size]? = some (.cells (tokCells t0).toArray 55 (0, 0)) := by rw [hwB]; exact Go.Deep.blk_alloc_new _ _
            have k0 : wB.cell? ⟨wA.heap.size, 0, none⟩ = some (.int .u8 t0.kind) := blk_cell hb55 0
            have k1 : wB.cell? ⟨wA.heap.size, 1, none⟩ = some (.bool t0.attr) := blk_cell hb55 1
            have k2 : wB.cell? ⟨wA.heap.size, 2, none⟩ = some (.int .i64 t0.count) := blk_cell hb55 2
            have k3 : wB.cell? ⟨wA.heap.size, 3, none⟩ = some (.int .i64 t0.frm) := blk_cell hb55 3
            have k4 : wB.cell? ⟨wA.heap.size, 4, none⟩ = some (.int .i64 t0.to) := blk_cell hb55 4
            have k5 : wB.cell? ⟨wA.heap.size, 5, none⟩ = some (.int .i64 t0.integer) := blk_cell hb55 5
            have k6 : wB.cell? ⟨wA.heap.size, 6, none⟩ = some (.float .f64 t0.double) := blk_cell hb55 6
            have k7 : wB.cell? ⟨wA.heap.size, 7, none⟩ = some (.bool t0.boolean) := blk_cell hb55 7
            have hb46 : wB.heap[w.heap.size]? = some (.cells #[.int .u8 t0.kind, .bool (vBool t0), .int .i64 (vInt t0), .float .f64 (vFloat t0), .string (vStr (strOfNums rl) t0), .string (vFmt (strOfNums rl) t0), .slice p1 q1 r1, .slice p2 q2 r2, .slice none 0 0, .slice p3 q3 r3] 46 (0, 0)) := (hbe.block _ (Nat.lt_succ_self _)).trans (Go.Deep.blk_alloc_new _ _)
            have v0 : wB.cell? ⟨w.heap.size, 0, none⟩ = some (.int .u8 t0.kind) := blk_cell hb46 0
            have v1 : wB.cell? ⟨w.heap.size, 1, none⟩ = some (.bool (vBool t0)) := blk_cell hb46 1
            have v2 : wB.cell? ⟨w.heap.size, 2, none⟩ = some (.int .i64 (vInt t0)) := blk_cell hb46 2
            have v3 : wB.cell? ⟨w.heap.size, 3, none⟩ = some (.float .f64 (vFloat t0)) := blk_cell hb46 3
            have v4 : wB.cell? ⟨w.heap.size, 4, none⟩ = some (.string (vStr (strOfNums rl) t0)) := blk_cell hb46 4
            have v5 : wB.cell? ⟨w.heap.size, 5, none⟩ = some (.string (vFmt (strOfNums rl) t0)) := blk_cell hb46 5
            have v6 : wB.cell? ⟨w.heap.size, 6, none⟩ = some (.slice p1 q1 r1) := blk_cell hb46 6
            have v7 : wB.cell? ⟨w.heap.size, 7, none⟩ = some (.slice p2 q2 r2) := blk_cell hb46 7
            have v8 : wB.cell? ⟨w.heap.size, 8, none⟩ = some (.slice none 0 0) := blk_cell hb46 8
            have v9 : wB.cell? ⟨w.heap.size, 9, none⟩ = some (.slice p3 q3 r3) := blk_cell hb46 9
            clear d0 d1 d2 d3 d4 d5 d6 d7 hb46 hb55 HBA HMA hwB
            have HBE := hide hbe
            have HMI2 := hide hmiB
            obtain ⟨wk, wct, wf, wo⟩ := HWF.out t0 (List.mem_of_getElem? HSU.out.at)
            have HXK : Hid (ext rl.length ms (kids t0) = some r) := by
              have h := HX.out
              rw [ext_main (by omega) HA2.out ((okB_iff _ _).2 HOK.out), show 1 - 1 + kids t0 = kids t0 by omega] at h
              exact h
            clear hbe hmiB HX
            obtain ⟨W', hW'⟩ : ∃ W', W' = W := ⟨_, rfl⟩
            clear hW'
            rcases kind_class t0.kind with ⟨hT, h13, h3, h10, h9, hS, h14⟩ | ⟨hT, h13, h3, h10, h9, hS, h14⟩ | ⟨hT, h13, h3, h10, h9, hS, h14⟩ | ⟨hT, h13, h3, h10, h9, hS, h14⟩ | ⟨hT, h13, h3, h10, h9, hS, h14⟩ | ⟨hT, h13, h3, h10, h9, hS, h14⟩ | ⟨hT, h13, h3, h10, h9, hS, h14⟩ | ⟨hT, h13, h3, h10, h9, hS, h14⟩
            · as_aux_lemma =>
              have n13 : ¬ t0.kind = 13 := by simpa using h13
              have n3 : ¬ t0.kind = 3 := by simpa using h3
              have n10 : ¬ t0.kind = 10 := by simpa using h10
              have n9 : ¬ t0.kind = 9 := by simpa using h9
              have n14 : ¬ t0.kind = 14 := by simpa using h14
              have hiv := HSQ.out.2 hS
              injection hiv with a1 a2 a3
              subst a1 a2 a3
              have hev := HMP.out.2 n14
              injection hev with a1 a2 a3
              subst a1 a2 a3
              have HRR : Hid (((toks.length - r.length : Nat) : Int) = (P : Int) + 1) := by
                have h := HXK.out
                rw [show kids t0 = 0 by unfold kids; simp [hS, n14], ext_zero] at h
                cases h
                show _ = _
                rw [← HP1.out]; rfl
              have e_vBool : vBool t0 = false := by unfold vBool; simp [n9, n3, n10]
              rw [e_vBool] at v1
              have e_vInt : vInt t0 = 0 := by unfold vInt; simp [n9, n3, n10]
              rw [e_vInt] at v2
              have e_vFloat : vFloat t0 = 0 := by unfold vFloat; simp [n9, n3, n10]
              rw [e_vFloat] at v3
              have e_vStr : vStr (strOfNums rl) t0 = (strOfNums rl).extract t0.frm.toNat t0.to.toNat := by unfold vStr; simp [hT, n13]
              rw [e_vStr] at v4
              have e_vFmt : vFmt (strOfNums rl) t0 = ByteArray.empty := by unfold vFmt; simp [n13]
              rw [e_vFmt] at v5
              obtain ⟨ok1, ok2, ok3⟩ := HOK.out.1 (.inl hT)
              obtain ⟨A, hA⟩ : ∃ A : Nat, t0.frm = A := ⟨t0.frm.toNat, by omega⟩
              obtain ⟨O, hO⟩ : ∃ O : Nat, t0.to = O := ⟨t0.to.toNat, by omega⟩
              rw [hA] at k3 ok1 ok2 wf
              rw [hO] at k4 ok2 ok3 wo
              obtain ⟨ra, hra⟩ := HMI2.out.raw.slice
              subst hra
              have ok2 : A ≤ O := by omega
              have ok3 : O ≤ rl.length := by omega
              rw [hA, hO, Int.toNat_natCast, Int.toNat_natCast] at v4
              clear n13 n3 n10 n9 n14 e_vBool e_vInt e_vFloat e_vStr e_vFmt HXK hA hO
              go_upto_region 41 with (first | (go_at_call 34; refine (isText_any _ _).mono ?_; rintro e w' ⟨rfl, rfl⟩) | (go_at_call 35; refine (isSeq_any _ _).mono ?_; rintro e w' ⟨rfl, rfl⟩) | (go_at_call 38; refine (sameFloat_any _ _).mono ?_; rintro e w' ⟨rfl, rfl⟩))
              go_cut [17] from 118 to 149 (fun s wx => s = .string ((strOfNums rl).extract A O) ∧ wx = wB)
              case first =>
                rcases HMI2.out.raw with ⟨hr, hr2⟩ | ⟨g, hr, hg, hc⟩
                · injection hr with a1 a2 a3
                  subst a1 hr2
                  have hO0 : O = 0 := by simpa using ok3
                  have hA0 : A = 0 := by omega
                  subst hO0 hA0
                  have hcv : (convert 22 9 (.slice none 0 0)).run Try.prog wB = .ok (.string ((strOfNums []).extract 0 0)) wB := raw_nil
                  go_wp2_with fail
                  go_meet
                  case rel => exact ⟨rfl, rfl⟩
                · injection hr with a1 a2 a3
                  subst a1
                  by_cases hAl : A = rl.length
                  · have hcv : ∀ off cap, (convert 22 9 (.slice (some ⟨g, off, none⟩) 0 cap)).run Try.prog wB = .ok (.string ((strOfNums rl).extract A O)) wB := fun off cap => by
                      have hOA : O = A := by omega
                      rw [hOA]; exact raw_none
                    have hOl : O = rl.length := by omega
                    clear hc
                    subst hOl
                    subst hAl
                    go_wp2_with fail
                    go_meet
                    case rel => exact ⟨by first | rfl | (simp; done) | (simp [hAl]; done), rfl⟩
                  · have hcv : (convert 22 9 (.slice (some ⟨g, A, none⟩) (O - (A)) (rl.length - (A)))).run Try.prog wB = .ok (.string ((strOfNums rl).extract A O)) wB := raw_part hc (by omega) (by omega)
                    clear hc
                    go_wp2_with fail
                    go_meet
                    case rel => exact ⟨rfl, rfl⟩
              case rest =>
              obtain ⟨rfl, rfl⟩ := hcut
              go_wp2_with (first | (go_at_call 34; refine (isText_any _ _).mono ?_; rintro e w' ⟨rfl, rfl⟩) | (go_at_call 35; refine (isSeq_any _ _).mono ?_; rintro e w' ⟨rfl, rfl⟩) | (go_at_call 38; refine (sameFloat_any _ _).mono ?_; rintro e w' ⟨rfl, rfl⟩))
              go_ret
              exact ⟨by rw [HRR.out]; rfl, (below_alloc w _).trans (HBE.out.mono (Nat.le_succ _))⟩
            · as_aux_lemma =>
              have n13 : t0.kind = 13 := by simpa using h13
              have n3 : ¬ t0.kind = 3 := by simpa using h3
              have n10 : ¬ t0.kind = 10 := by simpa using h10
              have n9 : ¬ t0.kind = 9 := by simpa using h9
              have n14 : ¬ t0.kind = 14 := by simpa using h14
              have hiv := HSQ.out.2 hS
              injection hiv with a1 a2 a3
              subst a1 a2 a3
              have hev := HMP.out.2 n14
              injection hev with a1 a2 a3
              subst a1 a2 a3
              have HRR : Hid (((toks.length - r.length : Nat) : Int) = (P : Int) + 1) := by
                have h := HXK.out
                rw [show kids t0 = 0 by unfold kids; simp [hS, n14], ext_zero] at h
                cases h
                show _ = _
                rw [← HP1.out]; rfl
              have e_vBool : vBool t0 = false := by unfold vBool; simp [n9, n3, n10]
              rw [e_vBool] at v1
              have e_vInt : vInt t0 = 0 := by unfold vInt; simp [n9, n3, n10]
              rw [e_vInt] at v2
              have e_vFloat : vFloat t0 = 0 := by unfold vFloat; simp [n9, n3, n10]
              rw [e_vFloat] at v3
              have e_vStr : vStr (strOfNums rl) t0 = (strOfNums rl).extract (t0.frm.toNat + 4) t0.to.toNat := by unfold vStr; rw [if_neg (by simp [hT]), if_pos n13]
              rw [e_vStr] at v4
              have e_vFmt : vFmt (strOfNums rl) t0 = (strOfNums rl).extract t0.frm.toNat (t0.frm.toNat + 3) := by unfold vFmt; simp [n13]
              rw [e_vFmt] at v5
              obtain ⟨ok1, ok2, ok3⟩ := HOK.out.1 (.inr n13)
              have ok4 := HOK.out.2.1 n13
              obtain ⟨A, hA⟩ : ∃ A : Nat, t0.frm = A := ⟨t0.frm.toNat, by omega⟩
              obtain ⟨O, hO⟩ : ∃ O : Nat, t0.to = O := ⟨t0.to.toNat, by omega⟩
              rw [hA] at k3 ok1 ok2 ok4 wf
              rw [hO] at k4 ok2 ok3 ok4 wo
              obtain ⟨ra, hra⟩ := HMI2.out.raw.slice
              subst hra
              have ok2 : A ≤ O := by omega
              have ok3 : O ≤ rl.length := by omega
              have ok4 : A + 4 ≤ O := by omega
              rw [hA, hO, Int.toNat_natCast, Int.toNat_natCast] at v4
              rw [hA, Int.toNat_natCast] at v5
              clear n13 n3 n10 n9 n14 e_vBool e_vInt e_vFloat e_vStr e_vFmt HXK hA hO
              go_upto_region 45 with (first | (go_at_call 34; refine (isText_any _ _).mono ?_; rintro e w' ⟨rfl, rfl⟩) | (go_at_call 35; refine (isSeq_any _ _).mono ?_; rintro e w' ⟨rfl, rfl⟩) | (go_at_call 38; refine (sameFloat_any _ _).mono ?_; rintro e w' ⟨rfl, rfl⟩))
              go_cut [18] from 118 to 165 (fun s wx => s = .string ((strOfNums rl).extract A (A + 3)) ∧ wx = wB)
              case first =>
                rcases HMI2.out.raw with ⟨hr, hr2⟩ | ⟨g, hr, hg, hc⟩
                · exact absurd ok3 (by rw [hr2]; simp; omega)
                · injection hr with a1 a2 a3
                  subst a1
                  by_cases hAl : A = rl.length
                  · omega
                    
                  · have hcv : (convert 22 9 (.slice (some ⟨g, A, none⟩) 3 (rl.length - A))).run Try.prog wB = .ok (.string ((strOfNums rl).extract A (A + 3))) wB := by
                      have h := raw_part hc (A := A) (O := A + 3) (cap := rl.length - A) (by omega) (by omega)
                      rwa [show A + 3 - A = 3 by omega] at h
                    clear hc
                    go_wp2_with fail
                    go_meet
                    case rel => exact ⟨rfl, rfl⟩
              case rest =>
              obtain ⟨rfl, rfl⟩ := hcut
              obtain ⟨wB, hwx⟩ : ∃ x : World, x = wc := ⟨_, rfl⟩
              subst hwx
              go_upto_region 46 with (first | (go_at_call 34; refine (isText_any _ _).mono ?_; rintro e w' ⟨rfl, rfl⟩) | (go_at_call 35; refine (isSeq_any _ _).mono ?_; rintro e w' ⟨rfl, rfl⟩) | (go_at_call 38; refine (sameFloat_any _ _).mono ?_; rintro e w' ⟨rfl, rfl⟩))
              go_cut [17] from 118 to 173 (fun s wx => s = .string ((strOfNums rl).extract (A + 4) O) ∧ wx = wB)
              case first =>
                rcases HMI2.out.raw with ⟨hr, hr2⟩ | ⟨g, hr, hg, hc⟩
                · exact absurd ok3 (by rw [hr2]; simp; omega)
                · injection hr with a1 a2 a3
                  subst a1
                  by_cases hAl : A + 4 = rl.length
                  · have hcv : ∀ off cap, (convert 22 9 (.slice (some ⟨g, off, none⟩) 0 cap)).run Try.prog wB = .ok (.string ((strOfNums rl).extract (A + 4) O)) wB := fun off cap => by
                      have hOA : O = A + 4 := by omega
                      rw [hOA]; exact raw_none
                    have hOl : O = rl.length := by omega
                    clear hc
                    subst hOl
                    go_wp2_with fail
                    go_meet
                    case rel => exact ⟨by first | rfl | (simp; done) | (simp [hAl]; done), rfl⟩
                  · have hcv : (convert 22 9 (.slice (some ⟨g, A + 4, none⟩) (O - (A + 4)) (rl.length - (A + 4)))).run Try.prog wB = .ok (.string ((strOfNums rl).extract (A + 4) O)) wB := raw_part hc (by omega) (by omega)
                    clear hc
                    go_wp2_with fail
                    go_meet
                    case rel => exact ⟨rfl, rfl⟩
              case rest =>
              obtain ⟨rfl, rfl⟩ := hcut
              go_wp2_with (first | (go_at_call 34; refine (isText_any _ _).mono ?_; rintro e w' ⟨rfl, rfl⟩) | (go_at_call 35; refine (isSeq_any _ _).mono ?_; rintro e w' ⟨rfl, rfl⟩) | (go_at_call 38; refine (sameFloat_any _ _).mono ?_; rintro e w' ⟨rfl, rfl⟩))
              go_ret
              exact ⟨by rw [HRR.out]; rfl, (below_alloc w _).trans (HBE.out.mono (Nat.le_succ _))⟩
            · as_aux_lemma =>
              have n13 : ¬ t0.kind = 13 := by simpa using h13
              have n3 : t0.kind = 3 := by simpa using h3
              have n10 : ¬ t0.kind = 10 := by simpa using h10
              have n9 : ¬ t0.kind = 9 := by simpa using h9
              have n14 : ¬ t0.kind = 14 := by simpa using h14
              have hiv := HSQ.out.2 hS
              injection hiv with a1 a2 a3
              subst a1 a2 a3
              have hev := HMP.out.2 n14
              injection hev with a1 a2 a3
              subst a1 a2 a3
              have HRR : Hid (((toks.length - r.length : Nat) : Int) = (P : Int) + 1) := by
                have h := HXK.out
                rw [show kids t0 = 0 by unfold kids; simp [hS, n14], ext_zero] at h
                cases h
                show _ = _
                rw [← HP1.out]; rfl
              have e_vBool : vBool t0 = false := by unfold vBool; simp [n9, n3, n10]
              rw [e_vBool] at v1
              have e_vInt : vInt t0 = t0.integer := by unfold vInt; simp [n9, n3, n10]
              rw [e_vInt] at v2
              have e_vFloat : vFloat t0 = 0 := by unfold vFloat; simp [n9, n3, n10]
              rw [e_vFloat] at v3
              have e_vStr : vStr (strOfNums rl) t0 = ByteArray.empty := by unfold vStr; simp [hT, n13]
              rw [e_vStr] at v4
              have e_vFmt : vFmt (strOfNums rl) t0 = ByteArray.empty := by unfold vFmt; simp [n13]
              rw [e_vFmt] at v5
              clear n13 n3 n10 n9 n14 e_vBool e_vInt e_vFloat e_vStr e_vFmt HXK
              go_wp2_with (first | (go_at_call 34; refine (isText_any _ _).mono ?_; rintro e w' ⟨rfl, rfl⟩) | (go_at_call 35; refine (isSeq_any _ _).mono ?_; rintro e w' ⟨rfl, rfl⟩) | (go_at_call 38; refine (sameFloat_any _ _).mono ?_; rintro e w' ⟨rfl, rfl⟩))
              go_ret
              exact ⟨by rw [HRR.out]; rfl, (below_alloc w _).trans (HBE.out.mono (Nat.le_succ _))⟩
            · as_aux_lemma =>
              have n13 : ¬ t0.kind = 13 := by simpa using h13
              have n3 : ¬ t0.kind = 3 := by simpa using h3
              have n10 : t0.kind = 10 := by simpa using h10
              have n9 : ¬ t0.kind = 9 := by simpa using h9
              have n14 : ¬ t0.kind = 14 := by simpa using h14
              have hiv := HSQ.out.2 hS
              injection hiv with a1 a2 a3
              subst a1 a2 a3
              have hev := HMP.out.2 n14
              injection hev with a1 a2 a3
              subst a1 a2 a3
              have HRR : Hid (((toks.length - r.length : Nat) : Int) = (P : Int) + 1) := by
                have h := HXK.out
                rw [show kids t0 = 0 by unfold kids; simp [hS, n14], ext_zero] at h
                cases h
                show _ = _
                rw [← HP1.out]; rfl
              have e_vBool : vBool t0 = false := by unfold vBool; simp [n9, n3, n10]
              rw [e_vBool] at v1
              have e_vInt : vInt t0 = 0 := by unfold vInt; simp [n9, n3, n10]
              rw [e_vInt] at v2
              have e_vFloat : vFloat t0 = t0.double := by unfold vFloat; simp [n9, n3, n10]
              rw [e_vFloat] at v3
              have e_vStr : vStr (strOfNums rl) t0 = ByteArray.empty := by unfold vStr; simp [hT, n13]
              rw [e_vStr] at v4
              have e_vFmt : vFmt (strOfNums rl) t0 = ByteArray.empty := by unfold vFmt; simp [n13]
              rw [e_vFmt] at v5
              clear n13 n3 n10 n9 n14 e_vBool e_vInt e_vFloat e_vStr e_vFmt HXK
              go_wp2_with (first | (go_at_call 34; refine (isText_any _ _).mono ?_; rintro e w' ⟨rfl, rfl⟩) | (go_at_call 35; refine (isSeq_any _ _).mono ?_; rintro e w' ⟨rfl, rfl⟩) | (go_at_call 38; refine (sameFloat_any _ _).mono ?_; rintro e w' ⟨rfl, rfl⟩))
              go_ret
              exact ⟨by rw [HRR.out]; rfl, (below_alloc w _).trans (HBE.out.mono (Nat.le_succ _))⟩
            · as_aux_lemma =>
              have n13 : ¬ t0.kind = 13 := by simpa using h13
              have n3 : ¬ t0.kind = 3 := by simpa using h3
              have n10 : ¬ t0.kind = 10 := by simpa using h10
              have n9 : t0.kind = 9 := by simpa using h9
              have n14 : ¬ t0.kind = 14 := by simpa using h14
              have hiv := HSQ.out.2 hS
              injection hiv with a1 a2 a3
              subst a1 a2 a3
              have hev := HMP.out.2 n14
              injection hev with a1 a2 a3
              subst a1 a2 a3
              have HRR : Hid (((toks.length - r.length : Nat) : Int) = (P : Int) + 1) := by
                have h := HXK.out
                rw [show kids t0 = 0 by unfold kids; simp [hS, n14], ext_zero] at h
                cases h
                show _ = _
                rw [← HP1.out]; rfl
              have e_vBool : vBool t0 = t0.boolean := by unfold vBool; simp [n9, n3, n10]
              rw [e_vBool] at v1
              have e_vInt : vInt t0 = 0 := by unfold vInt; simp [n9, n3, n10]
              rw [e_vInt] at v2
              have e_vFloat : vFloat t0 = 0 := by unfold vFloat; simp [n9, n3, n10]
              rw [e_vFloat] at v3
              have e_vStr : vStr (strOfNums rl) t0 = ByteArray.empty := by unfold vStr; simp [hT, n13]
              rw [e_vStr] at v4
              have e_vFmt : vFmt (strOfNums rl) t0 = ByteArray.empty := by unfold vFmt; simp [n13]
              rw [e_vFmt] at v5
              clear n13 n3 n10 n9 n14 e_vBool e_vInt e_vFloat e_vStr e_vFmt HXK
              go_wp2_with (first | (go_at_call 34; refine (isText_any _ _).mono ?_; rintro e w' ⟨rfl, rfl⟩) | (go_at_call 35; refine (isSeq_any _ _).mono ?_; rintro e w' ⟨rfl, rfl⟩) | (go_at_call 38; refine (sameFloat_any _ _).mono ?_; rintro e w' ⟨rfl, rfl⟩))
              go_ret
              exact ⟨by rw [HRR.out]; rfl, (below_alloc w _).trans (HBE.out.mono (Nat.le_succ _))⟩
            · as_aux_lemma =>
              have n13 : ¬ t0.kind = 13 := by simpa using h13
              have n3 : ¬ t0.kind = 3 := by simpa using h3
              have n10 : ¬ t0.kind = 10 := by simpa using h10
              have n9 : ¬ t0.kind = 9 := by simpa using h9
              have n14 : ¬ t0.kind = 14 := by simpa using h14
              have hev := HMP.out.2 n14
              injection hev with a1 a2 a3
              subst a1 a2 a3
              obtain ⟨g, cap, hsl, hg1, hg2, hg3, hg4, hgc⟩ := HSQ.out.1 hS
              injection hsl with a1 a2 a3
              subst a1 a2 a3
              have hc0 := HOK.out.2.2.1 hS
              obtain ⟨n, hcn⟩ : ∃ n : Nat, t0.count = n := ⟨(t0.count).toNat, by omega⟩
              have hkd : kids t0 = n := by unfold kids; rw [if_pos hS, hcn, Int.toNat_natCast]
              rw [hcn] at k2 wct
              rw [hkd] at HXK
              have hnl := ext_len _ _ _ HXK.out
              have hn2 : n ≤ 32768 := by omega
              rw [hcn, Int.toNat_natCast] at v6 hg3 hgc HBE HMI ⊢
              have e_vBool : vBool t0 = false := by unfold vBool; simp [n9, n3, n10]
              rw [e_vBool] at v1
              have e_vInt : vInt t0 = 0 := by unfold vInt; simp [n9, n3, n10]
              rw [e_vInt] at v2
              have e_vFloat : vFloat t0 = 0 := by unfold vFloat; simp [n9, n3, n10]
              rw [e_vFloat] at v3
              have e_vStr : vStr (strOfNums rl) t0 = ByteArray.empty := by unfold vStr; simp [hT, n13]
              rw [e_vStr] at v4
              have e_vFmt : vFmt (strOfNums rl) t0 = ByteArray.empty := by unfold vFmt; simp [n13]
              rw [e_vFmt] at v5
              have hnil : ∀ w, (binOp .eql 42 (.slice (some ⟨g, 0, none⟩) n r1) (.slice none 0 0)).run Try.prog w = .ok (.bool false) w := fun w => Lib.run_eql_slice_nil w 42 46 _ _ _ 0 0 Try.underlying42
              have hnn : ((n : Int) != (n : Int)) = false := by simp
              have HGC := hide hgc
              clear n13 n3 n10 n9 n14 e_vBool e_vInt e_vFloat e_vStr e_vFmt hgc hkd hc0 hcn
              go_wp2_with (first | (go_at_call 34; refine (isText_any _ _).mono ?_; rintro e w' ⟨rfl, rfl⟩) | (go_at_call 35; refine (isSeq_any _ _).mono ?_; rintro e w' ⟨rfl, rfl⟩) | (go_at_call 38; refine (sameFloat_any _ _).mono ?_; rintro e w' ⟨rfl, rfl⟩))
              go_loopw [2, 24] (fun pv kv wv => ∃ j : Nat, j ≤ n ∧ kv = .int .i64 (j : Int) ∧ pv = .int .i64 ((toks.length - (aft rl.length ms j).length : Nat) : Int) ∧ Below (w.heap.size + 1) (w.alloc (.cells #[.int .u8 t0.kind, .bool (vBool t0), .int .i64 (vInt t0), .float .f64 (vFloat t0), .string (vStr (strOfNums rl) t0), .string (vFmt (strOfNums rl) t0), .slice (some ⟨g, 0, none⟩) n r1, .slice none 0 0, .slice none 0 0, .slice p3 q3 r3] 46)) wv) (fun _ kv _ => n - (intOf kv).toNat)
              case atStart => exact ⟨0, Nat.zero_le _, rfl, by rw [aft_zero, ← HP1.out]; rfl, HBE.out⟩
              case round =>
                clear v0 v1 v2 v3 v4 v5 v6 v7 v8 v9 k0 k1 k2 k3 k4 k5 k6 k7 HBE HMI2
                obtain ⟨j, hj, rfl, rfl, hbe⟩ := hrel
                have hmi2 := HMI.out.below (by simpa using hbe)
                have hbw : Below w.heap.size w wr := (below_alloc w _).trans (hbe.mono (by omega))
                have hb46 := (hbe.block _ (Nat.lt_succ_self _)).trans (Go.Deep.blk_alloc_new _ _)
                have v6 : wr.cell? ⟨w.heap.size, 6, none⟩ = some (.slice (some ⟨g, 0, none⟩) n r1) := blk_cell hb46 6
                have v7 : wr.cell? ⟨w.heap.size, 7, none⟩ = some (.slice none 0 0) := blk_cell hb46 7
                have HSZ := hide hbe.size
                have hp := ext_part HXK.out (k := j) (by omega)
                have hsx := HSU.out.tail.ext hp.1
                have hsl := hsx.le
                obtain ⟨P', hP'⟩ : ∃ P', P' = toks.length - (aft rl.length ms j).length := ⟨_, rfl⟩
                have HP' := hide hP'
                have hPl : P' ≤ 32768 := by omega
                rw [← HP'.out]
                have HBE := hide hbe
                have HBW := hide hbw
                have HMW := hide hmi2
                have HSX := hide hsx
                clear hbe hbw hmi2 hsx hp hb46 hP'
                by_cases hlt : j < n
                · obtain ⟨c, hc1, hc2, hc3⟩ := HGC.out j hlt
                  obtain ⟨P'', hP''⟩ : ∃ P'', P'' = toks.length - (aft rl.length ms (j + 1)).length := ⟨_, rfl⟩
                  have HPP := hide hP''
                  have hPk : P'' ≤ 32768 := by omega
                  have HME := hide (HM.out c _ _ wr lo hi (hc3.stays _ (Nat.le_refl _) (Nat.le_refl _) (fun g _ hg => HBW.out.block g (by omega))) (Nat.le_trans hhi HBW.out.size) HSX.out (ext_step HXK.out hlt) HMW.out)
                  rw [← HP'.out, ← HPP.out] at HME
                  have HRG : Hid (wr.rangeAt g (j * 10) c) := fun i u hu => by
                    rw [World.cell?_of_block (w := w) (a := ⟨g, j * 10 + i, none⟩) (HBW.out.block g (by omega))]
                    exact hc2 i u hu
                  have HCL := hide hc1
                  clear hc1 hc2 hc3 hP''
                  go_wp2_with (refine wpList_load_mid rfl 46 (.tmp 254) rfl g (j * 10) (by rfl) c _ (by exact HRG.out) Try.underlying46 (by rfl) (by rw [HCL.out]; kernel_rfl) ?_)
                  refine (HME.out).mono ?_
                  rintro e w1 ⟨rfl, hb1⟩
                  have HB1 := hide hb1
                  clear hb1
                  go_wp2_with fail
                  go_roundw
                  case rel => exact ⟨j + 1, by omega, by go_num, by rw [HPP.out], HBE.out.trans (below_less HB1.out (by simpa using HSZ.out))⟩
                  case measure => simp [intOf]; omega
                · obtain rfl : j = n := by omega
                  have HRR : Hid (P' = toks.length - r.length) := by show _ = _; rw [HP'.out, aft_all HXK.out]
                  go_wp2_with fail
                  go_ret
                  exact ⟨by rw [← HRR.out]; rfl, HBW.out⟩
            · as_aux_lemma =>
              have n13 : ¬ t0.kind = 13 := by simpa using h13
              have n3 : ¬ t0.kind = 3 := by simpa using h3
              have n10 : ¬ t0.kind = 10 := by simpa using h10
              have n9 : ¬ t0.kind = 9 := by simpa using h9
              have n14 : t0.kind = 14 := by simpa using h14
              have hiv := HSQ.out.2 hS
              injection hiv with a1 a2 a3
              subst a1 a2 a3
              obtain ⟨g, cap, hsl, hg1, hg2, hg3, hg4, hgc⟩ := HMP.out.1 n14
              injection hsl with a1 a2 a3
              subst a1 a2 a3
              have hc0 := HOK.out.2.2.2 n14
              obtain ⟨n, hcn⟩ : ∃ n : Nat, half t0 = n := ⟨(half t0).toNat, by omega⟩
              have hkd : kids t0 = 2 * n := by unfold kids; rw [if_neg (by simp [hS]), if_pos n14, hcn, Int.toNat_natCast]
              have hq : t0.count.tdiv 2 = (n : Int) := hcn
              rw [hkd] at HXK
              have hnl := ext_len _ _ _ HXK.out
              have hn2 : n ≤ 32768 := by omega
              rw [hcn, Int.toNat_natCast] at v7 hg3 hgc HBE HMI ⊢
              have e_vBool : vBool t0 = false := by unfold vBool; simp [n9, n3, n10]
              rw [e_vBool] at v1
              have e_vInt : vInt t0 = 0 := by unfold vInt; simp [n9, n3, n10]
              rw [e_vInt] at v2
              have e_vFloat : vFloat t0 = 0 := by unfold vFloat; simp [n9, n3, n10]
              rw [e_vFloat] at v3
              have e_vStr : vStr (strOfNums rl) t0 = ByteArray.empty := by unfold vStr; simp [hT, n13]
              rw [e_vStr] at v4
              have e_vFmt : vFmt (strOfNums rl) t0 = ByteArray.empty := by unfold vFmt; simp [n13]
              rw [e_vFmt] at v5
              have hnil : ∀ w, (binOp .eql 43 (.slice (some ⟨g, 0, none⟩) n r2) (.slice none 0 0)).run Try.prog w = .ok (.bool false) w := fun w => Lib.run_eql_slice_nil w 43 64 _ _ _ 0 0 Try.underlying43
              have hnn : ((n : Int) != (n : Int)) = false := by simp
              have HGC := hide hgc
              clear n13 n3 n10 n9 n14 e_vBool e_vInt e_vFloat e_vStr e_vFmt hgc hkd hc0 hcn
              go_wp2_with (first | (go_at_call 34; refine (isText_any _ _).mono ?_; rintro e w' ⟨rfl, rfl⟩) | (go_at_call 35; refine (isSeq_any _ _).mono ?_; rintro e w' ⟨rfl, rfl⟩) | (go_at_call 38; refine (sameFloat_any _ _).mono ?_; rintro e w' ⟨rfl, rfl⟩))
              go_loopw [2, 25] (fun pv kv wv => ∃ j : Nat, j ≤ n ∧ kv = .int .i64 (j : Int) ∧ pv = .int .i64 ((toks.length - (aft rl.length ms (2 * j)).length : Nat) : Int) ∧ Below (w.heap.size + 1) (w.alloc (.cells #[.int .u8 t0.kind, .bool (vBool t0), .int .i64 (vInt t0), .float .f64 (vFloat t0), .string (vStr (strOfNums rl) t0), .string (vFmt (strOfNums rl) t0), .slice none 0 0, .slice (some ⟨g, 0, none⟩) n r2, .slice none 0 0, .slice p3 q3 r3] 46)) wv) (fun _ kv _ => n - (intOf kv).toNat)
              case atStart => exact ⟨0, Nat.zero_le _, rfl, by rw [Nat.mul_zero, aft_zero, ← HP1.out]; rfl, HBE.out⟩
              case round =>
                clear v0 v1 v2 v3 v4 v5 v6 v7 v8 v9 k0 k1 k2 k3 k4 k5 k6 k7 HBE HMI2
                obtain ⟨j, hj, rfl, rfl, hbe⟩ := hrel
                have hmi2 := HMI.out.below (by simpa using hbe)
                have hbw : Below w.heap.size w wr := (below_alloc w _).trans (hbe.mono (by omega))
                have hb46 := (hbe.block _ (Nat.lt_succ_self _)).trans (Go.Deep.blk_alloc_new _ _)
                have v7 : wr.cell? ⟨w.heap.size, 7, none⟩ = some (.slice (some ⟨g, 0, none⟩) n r2) := blk_cell hb46 7
                have HSZ := hide hbe.size
                have hp := ext_part HXK.out (k := 2 * j) (by omega)
                have hsx := HSU.out.tail.ext hp.1
                have hsl := hsx.le
                obtain ⟨P', hP'⟩ : ∃ P', P' = toks.length - (aft rl.length ms (2 * j)).length := ⟨_, rfl⟩
                have HP' := hide hP'
                have hPl : P' ≤ 32768 := by omega
                rw [← HP'.out]
                have HBE := hide hbe
                have HBW := hide hbw
                have HMW := hide hmi2
                have HSX := hide hsx
                clear hbe hbw hmi2 hsx hp hb46 hP'
                by_cases hlt : j < n
                · obtain ⟨c, hc1, hc2, hc3⟩ := HGC.out j hlt
                  obtain ⟨P'', hP''⟩ : ∃ P'', P'' = toks.length - (aft rl.length ms (2 * j + 2)).length := ⟨_, rfl⟩
                  have HPP := hide hP''
                  have hPk : P'' ≤ 32768 := by omega
                  have ha1 : aft rl.length (aft rl.length ms (2 * j)) 1 = aft rl.length ms (2 * j + 1) := aft_eq (ext_step HXK.out (by omega))
                  have HME := hide (mentry_any HM.out c _ _ wr lo hi hc1 (hc3.1.stays _ (Nat.le_refl _) (Nat.le_refl _) (fun g _ hg => HBW.out.block g (by omega))) (by rw [ha1]; exact hc3.2.stays _ (Nat.le_refl _) (Nat.le_refl _) (fun g _ hg => HBW.out.block g (by omega))) (Nat.le_trans hhi HBW.out.size) HSX.out (ext_step2 HXK.out (by omega)) HMW.out hn)
                  rw [← HP'.out, ← HPP.out] at HME
                  have HRG : Hid (wr.rangeAt g (j * 20) c) := fun i u hu => by
                    rw [World.cell?_of_block (w := w) (a := ⟨g, j * 20 + i, none⟩) (HBW.out.block g (by omega))]
                    exact hc2 i u hu
                  have HCL := hide hc1
                  clear hc1 hc2 hc3 hP'' ha1
                  go_wp2_with (refine wpList_load_mid rfl 64 (.tmp 286) rfl g (j * 20) (by rfl) c _ (by exact HRG.out) Try.underlying64 (by rfl) (by rw [HCL.out]; kernel_rfl) ?_)
                  refine (HME.out).mono ?_
                  rintro e w1 ⟨rfl, hb1⟩
                  have HB1 := hide hb1
                  clear hb1
                  go_wp2_with fail
                  go_roundw
                  case rel => exact ⟨j + 1, by omega, by go_num, by rw [HPP.out]; rfl, HBE.out.trans (below_less HB1.out (by simpa using HSZ.out))⟩
                  case measure => simp [intOf]; omega
                · obtain rfl : j = n := by omega
                  have HRR : Hid (P' = toks.length - r.length) := by show _ = _; rw [HP'.out, aft_all HXK.out]
                  go_wp2_with fail
                  go_ret
                  exact ⟨by rw [← HRR.out]; rfl, HBW.out⟩
            · as_aux_lemma =>
              have n13 : ¬ t0.kind = 13 := by simpa using h13
              have n3 : ¬ t0.kind = 3 := by simpa using h3
              have n10 : ¬ t0.kind = 10 := by simpa using h10
              have n9 : ¬ t0.kind = 9 := by simpa using h9
              have n14 : ¬ t0.kind = 14 := by simpa using h14
              have hiv := HSQ.out.2 hS
              injection hiv with a1 a2 a3
              subst a1 a2 a3
              have hev := HMP.out.2 n14
              injection hev with a1 a2 a3
              subst a1 a2 a3
              have HRR : Hid (((toks.length - r.length : Nat) : Int) = (P : Int) + 1) := by
                have h := HXK.out
                rw [show kids t0 = 0 by unfold kids; simp [hS, n14], ext_zero] at h
                cases h
                show _ = _
                rw [← HP1.out]; rfl
              have e_vBool : vBool t0 = false := by unfold vBool; simp [n9, n3, n10]
              rw [e_vBool] at v1
              have e_vInt : vInt t0 = 0 := by unfold vInt; simp [n9, n3, n10]
              rw [e_vInt] at v2
              have e_vFloat : vFloat t0 = 0 := by unfold vFloat; simp [n9, n3, n10]
              rw [e_vFloat] at v3
              have e_vStr : vStr (strOfNums rl) t0 = ByteArray.empty := by unfold vStr; simp [hT, n13]
              rw [e_vStr] at v4
              have e_vFmt : vFmt (strOfNums rl) t0 = ByteArray.empty := by unfold vFmt; simp [n13]
              rw [e_vFmt] at v5
              clear n13 n3 n10 n9 n14 e_vBool e_vInt e_vFloat e_vStr e_vFmt HXK
              go_wp2_with (first | (go_at_call 34; refine (isText_any _ _).mono ?_; rintro e w' ⟨rfl, rfl⟩) | (go_at_call 35; refine (isSeq_any _ _).mono ?_; rintro e w' ⟨rfl, rfl⟩) | (go_at_call 38; refine (sameFloat_any _ _).mono ?_; rintro e w' ⟨rfl, rfl⟩))
              go_ret
              exact ⟨by rw [HRR.out]; rfl, (below_alloc w _).trans (HBE.out.mono (Nat.le_succ _))⟩

theorem match_any {toks : List Tok} {gL : Nat} {rawV : Value} {rl : List Int} {keep : Bool} (hwf : ∀ t ∈ toks, TokWf t) (hn : toks.length ≤ 32768) (hrl : rl.length ≤ 1048576) : ∀ f, MC toks gL rawV rl keep f := by
  intro f
  induction f with
  | zero => intro cs ts r w lo hi hvt; exact hvt.elim
  | succ f ih => exact match_step ih hwf hn hrl

end Go.Proofs.Qxb6601678a.Bv
