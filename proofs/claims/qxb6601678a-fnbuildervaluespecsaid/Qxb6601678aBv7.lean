/-
  matchEntry, out of a contract for matchValue.
-/
import Derived.Test.Qxb6601678aBv5
namespace Go.Proofs.Qxb6601678a.Bv
open Go.RowKit Go.ChangeShapes Go.WideShapes Go.ChangeAt
set_option linter.unusedVariables false
set_option maxRecDepth 100000

attribute [local go_sem] run_store_float

/-- what the matcher reads: the tokens' row, raw's bytes -/
structure MI (toks : List Tok) (gL : Nat) (rawV : Value) (rl : List Int) (w : World) : Prop where
  row : TokRow w gL 0 toks
  raw : RawSl w rawV rl
  gl : gL < w.heap.size

theorem below_alloc (w : World) (o : Obj) : Below w.heap.size w (w.alloc o) := ⟨rfl, rfl, rfl, by simp, fun k hk => Go.Deep.blk_alloc_lt _ _ _ hk⟩

theorem below_less {B B' : Nat} {w w' : World} (h : Below B w w') (hB : B' ≤ B) : Below B' w w' := ⟨h.os, h.tape, h.output, h.size, fun k hk => h.block k (by omega)⟩

theorem MI.below {toks : List Tok} {gL : Nat} {rawV : Value} {rl : List Int} {w w' : World} (h : MI toks gL rawV rl w) (hb : Below w.heap.size w w') : MI toks gL rawV rl w' :=
  ⟨h.row.below hb h.gl, h.raw.keeps (fun k hk => hb.block k hk) hb.size, Nat.lt_of_lt_of_le h.gl hb.size⟩

/-- the contract of matchValue, for values of fuel f -/
def MC (toks : List Tok) (gL : Nat) (rawV : Value) (rl : List Int) (keep : Bool) (f : Nat) : Prop :=
  ∀ (cs : List Value) (ts r : List Tok) (w : World) (lo hi : Nat), VT rl.length (strOfNums rl) keep f lo hi w cs ts → hi ≤ w.heap.size → Suf toks ts → ext rl.length ts 1 = some r → MI toks gL rawV rl w →
    Calls Try.prog 28 #[.agg cs.toArray, .slice (some ⟨gL, 0, none⟩) toks.length toks.length, .int .i64 ((toks.length - ts.length : Nat) : Int), rawV, .bool keep] w fun e w' => e = .returned (.int .i64 ((toks.length - r.length : Nat) : Int)) ∧ Below w.heap.size w w'

set_option maxHeartbeats 2000000 in
theorem mentry_any {toks : List Tok} {gL : Nat} {rawV : Value} {rl : List Int} {keep : Bool} {f : Nat} (hm : MC toks gL rawV rl keep f) (c : List Value) (ts r : List Tok) (w : World) (lo hi : Nat) (hc : c.length = 20) (h1 : VT rl.length (strOfNums rl) keep f lo hi w (c.take 10) ts) (h2 : VT rl.length (strOfNums rl) keep f lo hi w (c.drop 10) (aft rl.length ts 1)) (hhi : hi ≤ w.heap.size) (hs : Suf toks ts) (he : ext rl.length ts 2 = some r) (hi' : MI toks gL rawV rl w) (hn : toks.length ≤ 32768) :
    Calls Try.prog 37 #[.agg c.toArray, .slice (some ⟨gL, 0, none⟩) toks.length toks.length, .int .i64 ((toks.length - ts.length : Nat) : Int), rawV, .bool keep] w fun e w' => e = .returned (.int .i64 ((toks.length - r.length : Nat) : Int)) ∧ Below w.heap.size w w' := by
  have HM := hide hm
  have H1 := hide h1
  have H2 := hide h2
  have HI := hide hi'
  have HS := hide hs
  have HE := hide he
  clear hm h1 h2 hi' hs he
  have hblk := Go.Deep.blk_alloc_new w (.cells c.toArray 64)
  have HR1 : Hid ((w.alloc (.cells c.toArray 64)).rangeAt w.heap.size 0 (c.take 10)) := fun j v hv => by
    rw [Nat.zero_add, blk_cell hblk]
    rw [List.getElem?_take] at hv
    split at hv
    · simpa using hv
    · cases hv
  have HR2 : Hid ((w.alloc (.cells c.toArray 64)).rangeAt w.heap.size 10 (c.drop 10)) := fun j v hv => by
    rw [blk_cell hblk]
    rw [List.getElem?_drop] at hv
    simpa using hv
  have hl1 : (c.take 10).length = 10 := by simp; omega
  have hl2 : (c.drop 10).length = 10 := by simp; omega
  have HL1 := hide hl1
  have HL2 := hide hl2
  have HB0 := hide (below_alloc w (.cells c.toArray 64))
  clear hl1 hl2 hblk
  go_enter Try.func37, Try.ntmps37
  go_wp2_with (refine wpList_load_mid rfl 46 (.tmp 12) rfl w.heap.size 0 (by rfl) (c.take 10) _ (by exact HR1.out) Try.underlying46 (by rfl) (by rw [HL1.out]; kernel_rfl) ?_)
  refine (HM.out _ _ (aft rl.length ts 1) _ lo hi (H1.out.stays _ (Nat.le_refl _) (Nat.le_refl _) (fun g _ hg => Go.Deep.blk_alloc_lt _ _ _ (by omega))) (by simp; omega) HS.out (ext_part HE.out (k := 1) (by omega)).1 (HI.out.below HB0.out)).mono ?_
  rintro e w1 ⟨rfl, hb1⟩
  have hw : Below w.heap.size w w1 := HB0.out.trans (below_less hb1 (by simp))
  have HW := hide hw
  have HB1 := hide hb1
  have HR3 : Hid (w1.rangeAt w.heap.size 10 (c.drop 10)) := fun j v hv => by
    rw [World.cell?_of_block (w := w.alloc (.cells c.toArray 64)) (a := ⟨w.heap.size, 10 + j, none⟩) (HB1.out.block _ (by simp))]
    exact HR2.out j v hv
  clear hw hb1 HR1 HR2
  go_wp2_with (refine wpList_load_mid rfl 46 (.tmp 21) rfl w.heap.size 10 (by rfl) (c.drop 10) _ (by exact HR3.out) Try.underlying46 (by rfl) (by rw [HL2.out]; kernel_rfl) ?_)
  refine (HM.out _ _ r _ lo hi (H2.out.stays _ (Nat.le_refl _) (Nat.le_refl _) (fun g _ hg => HW.out.block g (by omega))) (Nat.le_trans hhi HW.out.size) (HS.out.ext (ext_part HE.out (k := 1) (by omega)).1) (ext_part HE.out (k := 1) (by omega)).2 (HI.out.below HW.out)).mono ?_
  rintro e w2 ⟨rfl, hb2⟩
  have HB2 := hide (HW.out.trans (below_less hb2 HW.out.size))
  clear hb2
  go_wp2_with fail
  go_ret
  exact ⟨rfl, HB2.out⟩

end Go.Proofs.Qxb6601678a.Bv
