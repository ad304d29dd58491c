/-
  ZZBuilderValue.
-/
import Derived.Test.Qxb6601678aBv10
import Derived.Test.Qxb6601678aBv7
import Derived.Laws.ResultCell
import Derived.StillTailTactics
namespace Go.Proofs.Qxb6601678a.Bv
open Go.RowKit Go.ChangeShapes Go.WideShapes Go.ChangeAt
set_option linter.unusedVariables false
set_option maxRecDepth 100000

attribute [local go_sem] run_store_float

theorem info71 : (Try.prog.info? 71).map (fun i => (i.zero, i.size, i.bytes)) = some (some (.agg #[.int .u8 0, .bool false, .int .i64 0, .int .i64 0, .int .i64 0, .int .i64 0, .float .f64 0, .bool false]), 8, 56) := by kernel_rfl

/-- the tokens' fields, one row a field -/
structure Cols (w : World) (g0 g1 g2 g3 g4 g5 g6 g7 : Nat) (toks : List Tok) : Prop where
  c0 : ∀ i t, toks[i]? = some t → w.cell? ⟨g0, i, none⟩ = some (.int .u8 t.kind)
  c1 : ∀ i t, toks[i]? = some t → w.cell? ⟨g1, i, none⟩ = some (.bool t.attr)
  c2 : ∀ i t, toks[i]? = some t → w.cell? ⟨g2, i, none⟩ = some (.int .i64 t.count)
  c3 : ∀ i t, toks[i]? = some t → w.cell? ⟨g3, i, none⟩ = some (.int .i64 t.frm)
  c4 : ∀ i t, toks[i]? = some t → w.cell? ⟨g4, i, none⟩ = some (.int .i64 t.to)
  c5 : ∀ i t, toks[i]? = some t → w.cell? ⟨g5, i, none⟩ = some (.int .i64 t.integer)
  c6 : ∀ i t, toks[i]? = some t → w.cell? ⟨g6, i, none⟩ = some (.float .f64 t.double)
  c7 : ∀ i t, toks[i]? = some t → w.cell? ⟨g7, i, none⟩ = some (.bool t.boolean)
  b0 : g0 < w.heap.size
  b1 : g1 < w.heap.size
  b2 : g2 < w.heap.size
  b3 : g3 < w.heap.size
  b4 : g4 < w.heap.size
  b5 : g5 < w.heap.size
  b6 : g6 < w.heap.size
  b7 : g7 < w.heap.size

theorem Cols.below {w w' : World} {g0 g1 g2 g3 g4 g5 g6 g7 : Nat} {toks : List Tok} (h0 : Cols w g0 g1 g2 g3 g4 g5 g6 g7 toks) (hb : Below w.heap.size w w') : Cols w' g0 g1 g2 g3 g4 g5 g6 g7 toks :=
  ⟨fun i t h => (hb.cell (p := ⟨g0, i, none⟩) h0.b0).trans (h0.c0 i t h), fun i t h => (hb.cell (p := ⟨g1, i, none⟩) h0.b1).trans (h0.c1 i t h), fun i t h => (hb.cell (p := ⟨g2, i, none⟩) h0.b2).trans (h0.c2 i t h), fun i t h => (hb.cell (p := ⟨g3, i, none⟩) h0.b3).trans (h0.c3 i t h), fun i t h => (hb.cell (p := ⟨g4, i, none⟩) h0.b4).trans (h0.c4 i t h), fun i t h => (hb.cell (p := ⟨g5, i, none⟩) h0.b5).trans (h0.c5 i t h), fun i t h => (hb.cell (p := ⟨g6, i, none⟩) h0.b6).trans (h0.c6 i t h), fun i t h => (hb.cell (p := ⟨g7, i, none⟩) h0.b7).trans (h0.c7 i t h), Nat.lt_of_lt_of_le h0.b0 hb.size, Nat.lt_of_lt_of_le h0.b1 hb.size, Nat.lt_of_lt_of_le h0.b2 hb.size, Nat.lt_of_lt_of_le h0.b3 hb.size, Nat.lt_of_lt_of_le h0.b4 hb.size, Nat.lt_of_lt_of_le h0.b5 hb.size, Nat.lt_of_lt_of_le h0.b6 hb.size, Nat.lt_of_lt_of_le h0.b7 hb.size⟩

theorem below_set {B : Nat} {w w' : World} {g o : Nat} {vs : List Value} (h : Below B w w') (hB : B ≤ g) : Below B w (w'.setCells g o vs) :=
  ⟨(rest_setCells _ _ _ _).1.trans h.os, (rest_setCells _ _ _ _).2.1.trans h.tape, (rest_setCells _ _ _ _).2.2.trans h.output, by rw [size_setCells]; exact h.size, fun q hq => by rw [heap_setCells_other _ _ _ _ _ (by omega)]; exact h.block q hq⟩

theorem below_drew {B : Nat} {w w' : World} (h : Below B w w') : Below B w w'.drew := ⟨h.os, h.tape, h.output, h.size, h.block⟩

theorem rowI_drew {V : World → Nat → Nat → Nat → List Value → Prop} (hV : Held V) {e : TypeId} {g sz n j : Nat} {w : World} (h : RowI V e g sz n j w) : RowI V e g sz n j w.drew := by
  obtain ⟨M, h1, h2, h3⟩ := h
  refine ⟨M, h1, h2, fun i hi => ?_⟩
  obtain ⟨c, l, h', b1, b2, b3, b4, b5⟩ := h3 i hi
  exact ⟨c, l, h', b1, b2, b3, b4, hV _ _ _ _ _ _ _ _ b5 (Nat.le_refl _) (Nat.le_refl _) (fun _ _ _ => rfl)⟩

theorem results_cell_slot {P : Program} {fn : Func} {p u : Tmp} {ty : TypeId} (h : fn.results = #[.cell p ty, .tmp u]) (tmps : Array Value) (w : World) (g : Nat) (t : TypeId) (cs : Array Value) (fr : Nat × Nat) (d : TypeDesc)
    (hp : tmps.getD p undef = .pointer (some ⟨g, 0, none⟩)) (hg : w.heap[g]? = some (.cells cs t fr))
    (hu : P.underlying ty = some d) (hd : (match d with | .struct _ | .array _ _ => true | _ => false) = true) (hi : (P.info? ty).map (·.size) = some cs.size) :
    (results fn tmps).run P w = .ok (.tuple #[.agg cs, tmps.getD u undef]) w := by
  rw [results_cell_tmp h, hp]
  simp [asAddr, run_loadVar_row w g t ty cs fr d hg hu hd hi, Result.andThen]

theorem tsv_len (gT n m : Nat) : ∃ a, tsv gT n m = .slice a m m := by
  unfold tsv
  split
  · rename_i h; subst h; exact ⟨_, rfl⟩
  · exact ⟨_, rfl⟩

set_option maxHeartbeats 4000000 in
theorem zzb_any (g0 g1 g2 g3 g4 g5 g6 g7 : Nat) (toks r : List Tok) (rl : List Int) (rawV : Value) (wire : ByteArray) (keep : Bool) (w : World) (hc : Cols w g0 g1 g2 g3 g4 g5 g6 g7 toks) (hraw : RawSl w rawV rl) (hwire : wire = ByteArray.empty ∨ wire = strOfNums rl) (hwf : ∀ t ∈ toks, TokWf t) (hn : toks.length ≤ 32768) (hrl : rl.length ≤ 1048576) (hext : ext rl.length toks 1 = some r) :
    Calls Try.prog 36 #[.slice (some ⟨g0, 0, none⟩) toks.length toks.length, .slice (some ⟨g1, 0, none⟩) toks.length toks.length, .slice (some ⟨g2, 0, none⟩) toks.length toks.length, .slice (some ⟨g3, 0, none⟩) toks.length toks.length, .slice (some ⟨g4, 0, none⟩) toks.length toks.length, .slice (some ⟨g5, 0, none⟩) toks.length toks.length, .slice (some ⟨g6, 0, none⟩) toks.length toks.length, .slice (some ⟨g7, 0, none⟩) toks.length toks.length, rawV, .string wire, .bool keep] w fun e w' => ∃ cs lo hi, e = .returned (.tuple #[.agg cs.toArray, .int .i64 (r.length : Int)]) ∧ VT rl.length (strOfNums rl) keep toks.length lo hi w' cs toks ∧ hi ≤ w'.heap.size ∧ Below w.heap.size w w' ∧ w.heap.size ≤ lo := by
  have HC := hide hc
  have HRW := hide hraw
  have HWI := hide hwire
  have HWF := hide hwf
  have HEX := hide hext
  have hpos : 1 ≤ toks.length := by have := ext_len _ _ _ hext; omega
  obtain ⟨n, hnn⟩ : ∃ n, n = toks.length := ⟨_, rfl⟩
  rw [← hnn] at hn hpos ⊢
  have HN := hide hnn
  obtain ⟨ra, hra⟩ := hraw.slice
  clear hc hraw hwire hwf hext hnn
  subst hra
  go_enter Try.func36, Try.ntmps36
  go_wp2_with (refine wpl_make rfl 67 71 (.tmp 29) rfl _ 8 56 Try.underlying67 info71 n (by rfl) (by omega) (by omega) ?_)
  intro M hM
  go_wp2_with fail
  go_loopw [33] (fun iv wr => ∃ j : Nat, j ≤ n ∧ iv = .int .i64 (j : Int) ∧ RowI (VTok toks) 71 (w.heap.size + 1) 8 n j wr ∧ Below w.heap.size w wr ∧ wr.heap[w.heap.size]? = some (.cells #[.int .u8 0, .bool false, .int .i64 0, .float .f64 0, .string ⟨#[]⟩, .string ⟨#[]⟩, .slice none 0 0, .slice none 0 0, .slice none 0 0, .slice none 0 0] 46 (0, 0)) ∧ wr.heap.size = w.heap.size + 2) (fun iv _ => n - (intOf iv).toNat)
  case atStart => exact ⟨0, Nat.zero_le _, rfl, ⟨M, by have := Go.Deep.blk_alloc_new (w.alloc (.cells #[.int .u8 0, .bool false, .int .i64 0, .float .f64 0, .string ⟨#[]⟩, .string ⟨#[]⟩, .slice none 0 0, .slice none 0 0, .slice none 0 0, .slice none 0 0] 46)) (.cells M 71); simpa using this, hM, fun i hi => absurd hi (Nat.not_lt_zero _)⟩, ((Below.refl _ _).alloc (Nat.le_refl _) _).alloc (by simp) _, (Go.Deep.blk_alloc_lt _ _ _ (by simp)).trans (Go.Deep.blk_alloc_new _ _), by simp⟩
  case round =>
    obtain ⟨j, hj, rfl, hrow, hbe, hbk, hsz⟩ := hrel
    have HRO := hide hrow
    have HBE := hide hbe
    have HBK := hide hbk
    have HSZ := hide hsz
    clear hrow hbe hbk hsz
    by_cases hlt : j < n
    · obtain ⟨t, ht⟩ : ∃ t, toks[j]? = some t := ⟨toks[j]'(by rw [← HN.out]; exact hlt), List.getElem?_eq_getElem _⟩
      have d0 := (HC.out.below HBE.out).c0 j t ht
      have d1 := (HC.out.below HBE.out).c1 j t ht
      have d2 := (HC.out.below HBE.out).c2 j t ht
      have d3 := (HC.out.below HBE.out).c3 j t ht
      have d4 := (HC.out.below HBE.out).c4 j t ht
      have d5 := (HC.out.below HBE.out).c5 j t ht
      have d6 := (HC.out.below HBE.out).c6 j t ht
      have d7 := (HC.out.below HBE.out).c7 j t ht
      have HTH : Hid (wr.drew.there (w.heap.size + 1) (j * 8) 8) := (rowI_drew (heldTok toks) HRO.out).there (pb := w.heap.size) hlt (Nat.lt_succ_self _) (World.grownBy.refl _ _)
      have HNX : Hid (RowI (VTok toks) 71 (w.heap.size + 1) 8 n (j + 1) (wr.drew.setCells (w.heap.size + 1) (j * 8) (tokCells t))) := (rowI_drew (heldTok toks) HRO.out).next (pb := w.heap.size) (heldTok toks) hlt (Nat.lt_succ_self _) (World.grownBy.refl _ _) rfl ⟨t, ht, rfl⟩
      have hjn : (j : Int) < n := by omega
      clear ht
      go_upto_block 1 with fail
      go_cut [] from 34 to 73 (fun wx => RowI (VTok toks) 71 (w.heap.size + 1) 8 n (j + 1) wx ∧ Below w.heap.size w wx ∧ wx.heap[w.heap.size]? = some (.cells #[.int .u8 0, .bool false, .int .i64 0, .float .f64 0, .string ⟨#[]⟩, .string ⟨#[]⟩, .slice none 0 0, .slice none 0 0, .slice none 0 0, .slice none 0 0] 46 (0, 0)) ∧ wx.heap.size = w.heap.size + 2)
      case first =>
        go_wp2_with fail
        go_still_tail 37, (by kernel_rfl)
        change wpList _ _ _ _ _ (World.drew _)
        refine wpl_store rfl 71 (.tmp 72) (.tmp 71) rfl (w.heap.size + 1) (j * 8) (tokCells t) (by kernel_rfl) (by kernel_rfl) (by exact HTH.out) (by kernel_rfl) (by rfl) ?_
        go_wp2_with fail
        go_meet
        case rel => exact ⟨HNX.out, below_set (below_drew HBE.out) (Nat.le_succ _), (heap_setCells_other _ _ _ _ _ (by omega)).trans HBK.out, (size_setCells _ _ _ _).trans HSZ.out⟩
      case rest =>
        obtain ⟨h1, h2, h3, h4⟩ := hcut
        have HH := hide (And.intro h1 (And.intro h2 (And.intro h3 h4)))
        clear h1 h2 h3 h4 d0 d1 d2 d3 d4 d5 d6 d7
        go_wp2_with fail
        go_roundw
        case rel => exact ⟨j + 1, by omega, by go_num, HH.out⟩
        case measure => simp [intOf]; omega
    · obtain rfl : j = n := by omega
      have HTR : Hid (TokRow wr (w.heap.size + 1) 0 toks) := by
        have h := HRO.out
        rw [HN.out] at h
        exact h.toks
      have HPI : Hid (Inv toks (w.heap.size + 1) wr.heap.size (.slice ra rl.length rl.length) rl keep (wr.alloc (.cells #[.slice (some ⟨w.heap.size + 1, 0, none⟩) j j, .slice ra rl.length rl.length, .string wire, .bool keep] 74)) toks) := by
        have hra := HRW.out.keeps (fun k hk => HBE.out.block k hk) HBE.out.size
        refine ⟨⟨wire, HWI.out, ?_⟩, HTR.out.below (below_alloc _ _) (by rw [HSZ.out]; omega), hra.keeps (fun k hk => Go.Deep.blk_alloc_lt _ _ _ hk) (by simp), by simp [HSZ.out], by rw [HSZ.out]; omega, fun e => ?_⟩
        · rw [Go.Deep.blk_alloc_new, tsv_pos (by have := HN.out; omega), ← HN.out, Nat.sub_self, Nat.zero_mul]
        · rcases HRW.out with ⟨e1, _⟩ | ⟨g, e1, h2, _⟩
          · rw [e1] at e; cases e
          · rw [e1] at e
            have e' : g = wr.heap.size := by simpa [Value.ownBlock] using e
            rw [HSZ.out] at e'
            omega
      have HVA := hide (value_any (gT := w.heap.size + 1) (pb := wr.heap.size) (rawV := .slice ra rl.length rl.length) (rl := rl) (keep := keep) HWF.out (by rw [← HN.out]; exact hn) hrl toks.length toks r _ (Nat.le_refl _) ⟨[], rfl⟩ HEX.out HPI.out)
      go_upto_region 8 with fail
      go_cut [27] from 74 to 81 (fun s wx => ∃ (w1 : World) (cs : List Value), s = .pointer (some ⟨w1.heap.size, 0, none⟩) ∧ VT rl.length (strOfNums rl) keep toks.length (wr.heap.size + 1) w1.heap.size w1 cs toks ∧ Inv toks (w.heap.size + 1) wr.heap.size (.slice ra rl.length rl.length) rl keep w1 r ∧ Below (w.heap.size + 1) wr w1 ∧ wr.heap.size < w1.heap.size ∧ Fresh w1 wx cs 46)
      case first =>
        go_wp2_with fail
        refine (HVA.out).mono ?_
        rintro e w1 ⟨cs, rfl, hv1, hi1, hg1⟩
        obtain ⟨k1, b1, n1, x1, s1, m1, p1, q1, r1, p2, q2, r2, p3, q3, r3, hcc⟩ := hv1.cells
        subst hcc
        have HTH : Hid ((w1.alloc (.cells #[.int .u8 0, .bool false, .int .i64 0, .float .f64 0, .string ⟨#[]⟩, .string ⟨#[]⟩, .slice none 0 0, .slice none 0 0, .slice none 0 0, .slice none 0 0] 46)).there w1.heap.size 0 10) := there_new
        have HFT := hide (fresh_store (w := w1) (t := 46) (z := #[.int .u8 0, .bool false, .int .i64 0, .float .f64 0, .string ⟨#[]⟩, .string ⟨#[]⟩, .slice none 0 0, .slice none 0 0, .slice none 0 0, .slice none 0 0]) (cs := [.int .u8 k1, .bool b1, .int .i64 n1, .float .f64 x1, .string s1, .string m1, .slice p1 q1 r1, .slice p2 q2 r2, .slice none 0 0, .slice p3 q3 r3]) (by rfl))
        have HR1 : Hid (VT rl.length (strOfNums rl) keep toks.length (wr.heap.size + 1) w1.heap.size w1 [.int .u8 k1, .bool b1, .int .i64 n1, .float .f64 x1, .string s1, .string m1, .slice p1 q1 r1, .slice p2 q2 r2, .slice none 0 0, .slice p3 q3 r3] toks ∧ Inv toks (w.heap.size + 1) wr.heap.size (.slice ra rl.length rl.length) rl keep w1 r ∧ Below (w.heap.size + 1) wr w1 ∧ wr.heap.size < w1.heap.size) := by
          have hs1 := hg1.size
          simp at hs1
          refine ⟨by simpa using hv1, hi1, ⟨hg1.os, hg1.tape, hg1.output, by omega, fun k hk => ?_⟩, by omega⟩
          rw [hg1.block k (by have := HSZ.out; simp; omega) (by have := HSZ.out; simp; omega), Go.Deep.blk_alloc_lt _ _ _ (by have := HSZ.out; omega)]
        clear hv1 hi1 hg1 HVA HPI HTR
        go_wp2_with (refine wpl_store rfl 46 (.tmp 27) (.tmp 81) rfl w1.heap.size 0 [.int .u8 k1, .bool b1, .int .i64 n1, .float .f64 x1, .string s1, .string m1, .slice p1 q1 r1, .slice p2 q2 r2, .slice none 0 0, .slice p3 q3 r3] (by rfl) (by rfl) (by exact HTH.out) (by kernel_rfl) (by rfl) ?_)
        go_meet
        case rel => exact ⟨w1, _, rfl, HR1.out.1, HR1.out.2.1, HR1.out.2.2.1, HR1.out.2.2.2, HFT.out⟩
      case rest =>
        obtain ⟨w1, cs, rfl, hv1, hi1, hb1, hs1, hf1⟩ := hcut
        obtain ⟨k1, b1, n1, x1, s1, m1, p1, q1, r1, p2, q2, r2, p3, q3, r3, hcc⟩ := hv1.cells
        subst hcc
        have v0 : wc.cell? ⟨w1.heap.size, 0, none⟩ = some (.int .u8 k1) := blk_cell hf1.blk 0
        have v1 : wc.cell? ⟨w1.heap.size, 1, none⟩ = some (.bool b1) := blk_cell hf1.blk 1
        have v2 : wc.cell? ⟨w1.heap.size, 2, none⟩ = some (.int .i64 n1) := blk_cell hf1.blk 2
        have v3 : wc.cell? ⟨w1.heap.size, 3, none⟩ = some (.float .f64 x1) := blk_cell hf1.blk 3
        have v4 : wc.cell? ⟨w1.heap.size, 4, none⟩ = some (.string s1) := blk_cell hf1.blk 4
        have v5 : wc.cell? ⟨w1.heap.size, 5, none⟩ = some (.string m1) := blk_cell hf1.blk 5
        have v6 : wc.cell? ⟨w1.heap.size, 6, none⟩ = some (.slice p1 q1 r1) := blk_cell hf1.blk 6
        have v7 : wc.cell? ⟨w1.heap.size, 7, none⟩ = some (.slice p2 q2 r2) := blk_cell hf1.blk 7
        have v8 : wc.cell? ⟨w1.heap.size, 8, none⟩ = some (.slice none 0 0) := blk_cell hf1.blk 8
        have v9 : wc.cell? ⟨w1.heap.size, 9, none⟩ = some (.slice p3 q3 r3) := blk_cell hf1.blk 9
        obtain ⟨wv, _, hbb⟩ := hi1.bld
        obtain ⟨sa, hsa⟩ := tsv_len (w.heap.size + 1) toks.length r.length
        rw [hsa] at hbb
        have hbw := (hf1.grown.block _ (blk_lt hbb) (by simp)).trans hbb
        have hc0 : wc.cell? ⟨wr.heap.size, 0, none⟩ = some (.slice sa r.length r.length) := by rw [blk_cell hbw]; rfl
        have hrl1 : r.length ≤ 32768 := by have := ext_len _ _ _ HEX.out; have := HN.out; omega
        have hz1 : w1.heap[w.heap.size]? = some (.cells #[.int .u8 0, .bool false, .int .i64 0, .float .f64 0, .string ⟨#[]⟩, .string ⟨#[]⟩, .slice none 0 0, .slice none 0 0, .slice none 0 0, .slice none 0 0] 46 (0, 0)) := (hb1.block _ (Nat.lt_succ_self _)).trans HBK.out
        have hz : wc.heap[w.heap.size]? = some (.cells #[.int .u8 0, .bool false, .int .i64 0, .float .f64 0, .string ⟨#[]⟩, .string ⟨#[]⟩, .slice none 0 0, .slice none 0 0, .slice none 0 0, .slice none 0 0] 46 (0, 0)) := (hf1.grown.block _ (blk_lt hz1) (by simp)).trans hz1
        have HTH : Hid (wc.drew.there w.heap.size 0 10) := fun i hi => by
          have hz' : wc.drew.heap[w.heap.size]? = some (.cells #[.int .u8 0, .bool false, .int .i64 0, .float .f64 0, .string ⟨#[]⟩, .string ⟨#[]⟩, .slice none 0 0, .slice none 0 0, .slice none 0 0, .slice none 0 0] 46 (0, 0)) := hz
          rw [Nat.zero_add, blk_cell hz' i, blk_frozen hz' i]
          exact ⟨by rw [Array.getElem?_eq_getElem (by simpa using hi)]; rfl, rfl⟩
        have HBA : Hid ((wc.drew.setCells w.heap.size 0 [.int .u8 k1, .bool b1, .int .i64 n1, .float .f64 x1, .string s1, .string m1, .slice p1 q1 r1, .slice p2 q2 r2, .slice none 0 0, .slice p3 q3 r3]).heap[w.heap.size]? = some (.cells [.int .u8 k1, .bool b1, .int .i64 n1, .float .f64 x1, .string s1, .string m1, .slice p1 q1 r1, .slice p2 q2 r2, .slice none 0 0, .slice p3 q3 r3].toArray 46 (0, 0))) := blk_setAll (w := wc.drew) (t := 46) (c := #[.int .u8 0, .bool false, .int .i64 0, .float .f64 0, .string ⟨#[]⟩, .string ⟨#[]⟩, .slice none 0 0, .slice none 0 0, .slice none 0 0, .slice none 0 0]) hz (by rfl)
        have HFI : Hid (VT rl.length (strOfNums rl) keep toks.length (wr.heap.size + 1) w1.heap.size (wc.drew.setCells w.heap.size 0 [.int .u8 k1, .bool b1, .int .i64 n1, .float .f64 x1, .string s1, .string m1, .slice p1 q1 r1, .slice p2 q2 r2, .slice none 0 0, .slice p3 q3 r3]) [.int .u8 k1, .bool b1, .int .i64 n1, .float .f64 x1, .string s1, .string m1, .slice p1 q1 r1, .slice p2 q2 r2, .slice none 0 0, .slice p3 q3 r3] toks ∧ w1.heap.size ≤ (wc.drew.setCells w.heap.size 0 [.int .u8 k1, .bool b1, .int .i64 n1, .float .f64 x1, .string s1, .string m1, .slice p1 q1 r1, .slice p2 q2 r2, .slice none 0 0, .slice p3 q3 r3]).heap.size ∧ Below w.heap.size w (wc.drew.setCells w.heap.size 0 [.int .u8 k1, .bool b1, .int .i64 n1, .float .f64 x1, .string s1, .string m1, .slice p1 q1 r1, .slice p2 q2 r2, .slice none 0 0, .slice p3 q3 r3])) := by
          have hsz := HSZ.out
          refine ⟨hv1.stays _ (Nat.le_refl _) (Nat.le_refl _) (fun g h1 h2 => ?_), ?_, below_set (below_drew ?_) (Nat.le_refl _)⟩
          · rw [heap_setCells_other _ _ _ _ _ (by omega)]
            exact hf1.grown.block g h2 (by simp)
          · rw [size_setCells]
            exact hf1.grown.size
          · refine HBE.out.trans ((below_less hb1 (Nat.le_succ _)).trans ⟨hf1.grown.os, hf1.grown.tape, hf1.grown.output, hf1.grown.size, fun k hk => hf1.grown.block k (by omega) (by simp)⟩)
        clear hv1 hi1 hb1 hf1 hbb hbw hz1 hz hsa HVA HPI HTR HRO HBE HBK
        have HON : Hid (∀ u ∈ ([.int .u8 k1, .bool b1, .int .i64 n1, .float .f64 x1, .string s1, .string m1, .slice p1 q1 r1, .slice p2 q2 r2, .slice none 0 0, .slice p3 q3 r3] : List Value), u.oneCell' = true) := List.all_eq_true.1 (by rfl)
        have hc1 : (wc.drew.setCells w.heap.size 0 [.int .u8 k1, .bool b1, .int .i64 n1, .float .f64 x1, .string s1, .string m1, .slice p1 q1 r1, .slice p2 q2 r2, .slice none 0 0, .slice p3 q3 r3]).cell? ⟨wr.heap.size, 0, none⟩ = some (.slice sa r.length r.length) := by
          rw [World.cell?_of_block (w := wc.drew) (a := ⟨wr.heap.size, 0, none⟩) (heap_setCells_other _ _ _ _ _ (by have := HSZ.out; simp; omega))]
          exact hc0
        go_upto_region 9 with fail
        go_cut [23] from 82 to 87 (fun s wx => s = .int .i64 (r.length : Int) ∧ wx = wc.drew.setCells w.heap.size 0 [.int .u8 k1, .bool b1, .int .i64 n1, .float .f64 x1, .string s1, .string m1, .slice p1 q1 r1, .slice p2 q2 r2, .slice none 0 0, .slice p3 q3 r3])
        case first =>
          refine wp_region_any (by kernel_rfl) ?_
          change wpAny _ _ _ _ _ _ _ (World.drew _)
          refine wpAny_take (i := 1) (v := .pointer (some ⟨wr.heap.size, 0, none⟩)) rfl (by kernel_rfl) (by kernel_rfl) (by kernel_rfl) (fun _ _ _ h => h) (Or.inl ⟨by rfl, by intro w; go_simp⟩) ?_
          refine wpAny_take (i := 2) (v := .pointer (some ⟨wr.heap.size, 0, none⟩)) rfl (by kernel_rfl) (by kernel_rfl) (by kernel_rfl) (fun _ _ _ h => h) (Or.inl ⟨by rfl, by intro w; go_simp⟩) ?_
          refine wpAny_take (i := 3) (v := .pointer (some ⟨wr.heap.size, 0, none⟩)) rfl (by kernel_rfl) (by kernel_rfl) (by kernel_rfl) (fun _ _ _ h => h) (Or.inl ⟨by rfl, by intro w; go_simp⟩) ?_
          refine wpAny_ready (rs := [0, 4]) (by kernel_rfl) (by simp) ?_
          refine AllReady.cons rfl (fun K hK => ?_) (AllReady.cons rfl (fun K hK => ?_) AllReady.nil)
          · go_simp
            refine hK _ _ ?_
            clear hK K
            refine wpAny_ready (rs := [4, 6]) (by kernel_rfl) (by simp) ?_
            refine AllReady.cons rfl (fun K hK => ?_) (AllReady.cons rfl (fun K hK => step_store rfl 46 (.tmp 22) (.tmp 82) rfl w.heap.size 0 [.int .u8 k1, .bool b1, .int .i64 n1, .float .f64 x1, .string s1, .string m1, .slice p1 q1 r1, .slice p2 q2 r2, .slice none 0 0, .slice p3 q3 r3] (by rfl) (by rfl) HTH.out (by kernel_rfl) HON.out (hK _ _ ?_)) AllReady.nil)
            · go_simp
              refine hK _ _ ?_
              clear hK K
              refine wpAny_take (i := 5) (v := .int .i64 (r.length : Int)) rfl (by kernel_rfl) (by kernel_rfl) (by kernel_rfl) (fun _ _ _ h => h) (Or.inl ⟨by rfl, by intro w; go_simp⟩) ?_
              refine wpAny_ready (rs := [6]) (by kernel_rfl) (by simp) ?_
              refine AllReady.cons rfl (fun K hK => step_store rfl 46 (.tmp 22) (.tmp 82) rfl w.heap.size 0 [.int .u8 k1, .bool b1, .int .i64 n1, .float .f64 x1, .string s1, .string m1, .slice p1 q1 r1, .slice p2 q2 r2, .slice none 0 0, .slice p3 q3 r3] (by rfl) (by rfl) HTH.out (by kernel_rfl) HON.out (hK _ _ ?_)) AllReady.nil
              clear hK K
              refine wpAny_take (i := 7) (v := .int .i64 (r.length : Int)) rfl (by kernel_rfl) (by kernel_rfl) (by kernel_rfl) (fun _ _ _ h => h) (Or.inl ⟨by rfl, by intro w; go_simp⟩) ?_
              refine wpAny_done (by kernel_rfl) ?_ _
              go_wp2_with fail
              go_meet
              case rel => exact ⟨rfl, rfl⟩
            · clear hK K
              refine wpAny_ready (rs := [4]) (by kernel_rfl) (by simp) ?_
              refine AllReady.cons rfl (fun K hK => ?_) AllReady.nil
              go_simp
              refine hK _ _ ?_
              clear hK K
              refine wpAny_take (i := 5) (v := .int .i64 (r.length : Int)) rfl (by kernel_rfl) (by kernel_rfl) (by kernel_rfl) (fun _ _ _ h => h) (Or.inl ⟨by rfl, by intro w; go_simp⟩) ?_
              refine wpAny_take (i := 7) (v := .int .i64 (r.length : Int)) rfl (by kernel_rfl) (by kernel_rfl) (by kernel_rfl) (fun _ _ _ h => h) (Or.inl ⟨by rfl, by intro w; go_simp⟩) ?_
              refine wpAny_done (by kernel_rfl) ?_ _
              go_wp2_with fail
              go_meet
              case rel => exact ⟨rfl, rfl⟩
          · go_simp
            refine hK _ _ ?_
            clear hK K
            refine wpAny_take (i := 5) (v := .int .i64 (r.length : Int)) rfl (by kernel_rfl) (by kernel_rfl) (by kernel_rfl) (fun _ _ _ h => h) (Or.inl ⟨by rfl, by intro w; go_simp⟩) ?_
            refine wpAny_ready (rs := [0]) (by kernel_rfl) (by simp) ?_
            refine AllReady.cons rfl (fun K hK => ?_) AllReady.nil
            go_simp
            refine hK _ _ ?_
            clear hK K
            refine wpAny_ready (rs := [6]) (by kernel_rfl) (by simp) ?_
            refine AllReady.cons rfl (fun K hK => step_store rfl 46 (.tmp 22) (.tmp 82) rfl w.heap.size 0 [.int .u8 k1, .bool b1, .int .i64 n1, .float .f64 x1, .string s1, .string m1, .slice p1 q1 r1, .slice p2 q2 r2, .slice none 0 0, .slice p3 q3 r3] (by rfl) (by rfl) HTH.out (by kernel_rfl) HON.out (hK _ _ ?_)) AllReady.nil
            clear hK K
            refine wpAny_take (i := 7) (v := .int .i64 (r.length : Int)) rfl (by kernel_rfl) (by kernel_rfl) (by kernel_rfl) (fun _ _ _ h => h) (Or.inl ⟨by rfl, by intro w; go_simp⟩) ?_
            refine wpAny_done (by kernel_rfl) ?_ _
            go_wp2_with fail
            go_meet
            case rel => exact ⟨rfl, rfl⟩
        case rest =>
          obtain ⟨rfl, rfl⟩ := hcut
          go_wp2_with fail
          refine bodyPost_ret (results_cell_slot rfl _ _ w.heap.size 46 _ _ _ ?_ HBA.out Try.underlying46 rfl ?_) rfl ?_
          · rfl
          · kernel_rfl
          have hfin := HFI.out
          rw [← HN.out] at hfin
          exact ⟨_, _, _, rfl, hfin.1, hfin.2.1, hfin.2.2, by have := HSZ.out; omega⟩

end Go.Proofs.Qxb6601678a.Bv
