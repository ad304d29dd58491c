/-
  (*builder).entry, out of a contract for (*builder).value.
-/
import Derived.Test.Qxb6601678aBv3
import Derived.Deep.MidRow
namespace Go.Proofs.Qxb6601678a.Bv
open Go.RowKit Go.ChangeShapes Go.WideShapes Go.ChangeAt
set_option linter.unusedVariables false
set_option maxRecDepth 100000

attribute [local go_sem] run_store_float

/-- what stands while a value is built: pb: the builder's block; gT: the tokens' -/
structure Inv (toks : List Tok) (gT pb : Nat) (rawV : Value) (rl : List Int) (keep : Bool) (w : World) (ts : List Tok) : Prop where
  bld : Bld w pb (tsv gT toks.length ts.length) rawV (strOfNums rl) keep
  row : TokRow w gT 0 toks
  raw : RawSl w rawV rl
  gt : gT < w.heap.size
  ne : gT ≠ pb
  rne : rawV.ownBlock ≠ some pb

theorem RawSl.grown {w w' : World} {rawV : Value} {rl : List Int} {pb : Nat} (h : RawSl w rawV rl) (hne : rawV.ownBlock ≠ some pb) (hg : w.grownBy w' (some pb)) : RawSl w' rawV rl := by
  rcases h with h | ⟨g, h1, h2, h3⟩
  · exact .inl h
  · refine .inr ⟨g, h1, Nat.lt_of_lt_of_le h2 hg.size, fun i hi => ?_⟩
    rw [World.cell?_of_block (w := w) (a := ⟨g, i, none⟩) (hg.block g h2 (by rw [h1] at hne; simpa [Value.ownBlock] using hne))]
    exact h3 i hi

theorem TokRow.grown {w w' : World} {gT pb : Nat} {toks : List Tok} (h : TokRow w gT 0 toks) (hlt : gT < w.heap.size) (hne : gT ≠ pb) (hg : w.grownBy w' (some pb)) : TokRow w' gT 0 toks :=
  fun i t hi j u hu => by
    rw [World.cell?_of_block (w := w) (a := ⟨gT, 0 + i * 8 + j, none⟩) (hg.block gT hlt (by simpa using hne))]
    exact h i t hi j u hu

section
variable {toks : List Tok} {gT pb : Nat} {rawV : Value} {rl : List Int} {keep : Bool}

theorem Inv.next {w w' : World} {ts ts' : List Tok} (h : Inv toks gT pb rawV rl keep w ts) (hg : w.grownBy w' (some pb)) (hb : Bld w' pb (tsv gT toks.length ts'.length) rawV (strOfNums rl) keep) : Inv toks gT pb rawV rl keep w' ts' :=
  ⟨hb, h.row.grown h.gt h.ne hg, h.raw.grown h.rne hg, Nat.lt_of_lt_of_le h.gt hg.size, h.ne, h.rne⟩

theorem Inv.pb_lt {w : World} {ts : List Tok} (h : Inv toks gT pb rawV rl keep w ts) : pb < w.heap.size := by
  obtain ⟨wv, _, hb⟩ := h.bld
  exact blk_lt hb

theorem Inv.raw_lt {w : World} {ts : List Tok} (h : Inv toks gT pb rawV rl keep w ts) : ∀ g, rawV.ownBlock = some g → g < w.heap.size := by
  intro g hg
  rcases h.raw with ⟨e, _⟩ | ⟨g', e, h2, _⟩
  · rw [e] at hg; cases hg
  · rw [e] at hg
    simp [Value.ownBlock] at hg
    omega

/-- nothing that the builder reads has turned -/
theorem Inv.same {w w' : World} {ts : List Tok} (h : Inv toks gT pb rawV rl keep w ts) (hk : ∀ k, k < w.heap.size → w'.heap[k]? = w.heap[k]?) (hs : w.heap.size ≤ w'.heap.size) : Inv toks gT pb rawV rl keep w' ts := by
  obtain ⟨wv, h1, h2⟩ := h.bld
  refine ⟨⟨wv, h1, by rw [hk pb (blk_lt h2)]; exact h2⟩, ?_, h.raw.keeps hk hs, Nat.lt_of_lt_of_le h.gt hs, h.ne, h.rne⟩
  intro i t hi j u hu
  rw [World.cell?_of_block (w := w) (a := ⟨gT, 0 + i * 8 + j, none⟩) (hk gT h.gt)]
  exact h.row i t hi j u hu

theorem Inv.alloc {w : World} {ts : List Tok} (h : Inv toks gT pb rawV rl keep w ts) (o : Obj) : Inv toks gT pb rawV rl keep (w.alloc o) ts :=
  h.same (fun k hk => Go.Deep.blk_alloc_lt _ _ _ hk) (by simp)

end

/-- the contract of value, for tokens of at most N -/
def VC (toks : List Tok) (gT pb : Nat) (rawV : Value) (rl : List Int) (keep : Bool) (N : Nat) : Prop :=
  ∀ (ts r : List Tok) (w : World), ts.length ≤ N → Suf toks ts → ext rl.length ts 1 = some r → Inv toks gT pb rawV rl keep w ts →
    Calls Try.prog 39 #[.pointer (some ⟨pb, 0, none⟩)] w fun e w' => ∃ cs : List Value, e = .returned (.agg cs.toArray) ∧ VT rl.length (strOfNums rl) keep N w.heap.size w'.heap.size w' cs ts ∧ Inv toks gT pb rawV rl keep w' r ∧ w.grownBy w' (some pb)

theorem grown_trans {a b c : World} {row : Option Nat} (h : a.grownBy b row) (k : b.grownBy c row) : a.grownBy c row :=
  ⟨k.os.trans h.os, k.tape.trans h.tape, k.output.trans h.output, Nat.le_trans h.size k.size, fun i hi hne => (k.block i (Nat.lt_of_lt_of_le hi h.size) hne).trans (h.block i hi hne)⟩

theorem grown_weak {a b : World} {row : Option Nat} (h : a.grownBy b none) : a.grownBy b row :=
  ⟨h.os, h.tape, h.output, h.size, fun i hi _ => h.block i hi (by simp)⟩

/-- a whole block is written over -/
theorem blk_setCells {b : Nat} {t : TypeId} : ∀ (vs : List Value) (o : Nat) (w : World) (c : Array Value), w.heap[b]? = some (.cells c t (0, 0)) → ∃ c', (w.setCells b o vs).heap[b]? = some (.cells c' t (0, 0)) ∧ c'.size = c.size ∧ (∀ i, i < o → c'[i]? = c[i]?) ∧ ∀ j u, vs[j]? = some u → o + j < c.size → c'[o + j]? = some u := by
  intro vs
  induction vs with
  | nil => intro o w c h; exact ⟨c, h, rfl, fun _ _ => rfl, fun j u hu => by simp at hu⟩
  | cons v vs ih =>
    intro o w c h
    obtain ⟨c', h1, h2, h3, h4⟩ := ih (o + 1) (w.setCell ⟨b, o, none⟩ v) (c.setIfInBounds o v) (blk_set h o v)
    refine ⟨c', h1, by simpa using h2, fun i hi => ?_, fun j u hu hj => ?_⟩
    · rw [h3 i (by omega), Array.getElem?_setIfInBounds, if_neg (by omega)]
    · cases j with
      | zero =>
        simp at hu
        subst hu
        rw [Nat.add_zero, h3 o (by omega), Array.getElem?_setIfInBounds, if_pos rfl, if_pos (by simpa using hj)]
      | succ j =>
        have := h4 j u (by simpa using hu) (by simp; omega)
        rwa [show o + 1 + j = o + (j + 1) by omega] at this

/-- a whole block is written over -/
theorem blk_setAll {w : World} {b : Nat} {c : Array Value} {t : TypeId} {vs : List Value} (h : w.heap[b]? = some (.cells c t (0, 0))) (hl : vs.length = c.size) : (w.setCells b 0 vs).heap[b]? = some (.cells vs.toArray t (0, 0)) := by
  obtain ⟨c', h1, h2, _, h4⟩ := blk_setCells vs 0 w c h
  rw [h1]
  congr 2
  apply Array.ext_getElem?
  intro i
  by_cases hi : i < vs.length
  · have := h4 i vs[i] (List.getElem?_eq_getElem hi) (by omega)
    rw [Nat.zero_add] at this
    rw [this]
    simp [hi]
  · rw [Array.getElem?_eq_none (by omega), Array.getElem?_eq_none (by simp; omega)]

theorem heap_setCells_other (b : Nat) : ∀ (vs : List Value) (o : Nat) (w : World) (k : Nat), k ≠ b → (w.setCells b o vs).heap[k]? = w.heap[k]? := by
  intro vs
  induction vs with
  | nil => intro o w k _; rfl
  | cons v vs ih => intro o w k hk; rw [World.setCells, ih _ _ _ hk, Go.Deep.blk_setCell_other _ _ _ _ hk]

theorem size_setCells (b : Nat) : ∀ (vs : List Value) (o : Nat) (w : World), (w.setCells b o vs).heap.size = w.heap.size := by
  intro vs
  induction vs with
  | nil => intro o w; rfl
  | cons v vs ih => intro o w; rw [World.setCells, ih]; simp

theorem rest_setCells (b : Nat) : ∀ (vs : List Value) (o : Nat) (w : World), (w.setCells b o vs).os = w.os ∧ (w.setCells b o vs).tape = w.tape ∧ (w.setCells b o vs).output = w.output := by
  intro vs
  induction vs with
  | nil => intro o w; exact ⟨rfl, rfl, rfl⟩
  | cons v vs ih => intro o w; rw [World.setCells]; exact ih _ _

theorem grown_setCells_own {w : World} {b o : Nat} {vs : List Value} : w.grownBy (w.setCells b o vs) (some b) :=
  ⟨(rest_setCells b vs o w).1, (rest_setCells b vs o w).2.1, (rest_setCells b vs o w).2.2, by rw [size_setCells]; exact Nat.le_refl _, fun k _ hne => heap_setCells_other b vs o w k (fun e => hne (by rw [e]))⟩

/-- a block of the call's own is written -/
theorem grown_setCells {w w' : World} {b o : Nat} {vs : List Value} {row : Option Nat} (h : w.grownBy w' row) (hb : w.heap.size ≤ b) : w.grownBy (w'.setCells b o vs) row :=
  ⟨(rest_setCells b vs o w').1.trans h.os, (rest_setCells b vs o w').2.1.trans h.tape, (rest_setCells b vs o w').2.2.trans h.output, by rw [size_setCells]; exact h.size, fun k hk hne => by rw [heap_setCells_other b vs o w' k (by omega)]; exact h.block k hk hne⟩

/-- another block than the builder's, the tokens' and raw's has turned -/
theorem Inv.other {toks : List Tok} {gT pb : Nat} {rawV : Value} {rl : List Int} {keep : Bool} {w w' : World} {ts : List Tok} {b : Nat} (h : Inv toks gT pb rawV rl keep w ts) (hg : w.grownBy w' (some b)) (hb : pb < b ∧ gT < b ∧ ∀ g, rawV.ownBlock = some g → g < b) : Inv toks gT pb rawV rl keep w' ts := by
  obtain ⟨wv, h1, h2⟩ := h.bld
  refine ⟨⟨wv, h1, by rw [hg.block pb (blk_lt h2) (by simp; omega)]; exact h2⟩, h.row.grown h.gt (by omega) hg, h.raw.grown (fun e => by have := hb.2.2 _ e; omega) hg, Nat.lt_of_lt_of_le h.gt hg.size, h.ne, h.rne⟩

/-- a struct goes into its cells -/
theorem wpl_store {ops : Array Oper} {rest : List Oper} {op : Oper} {a : Act} {w : World} {Q : Exit → Act → World → Prop} (hgd : op.guard = none) (ty : TypeId) (x y : Operand) (ho : op.op = .store ty x y)
    (b o : Nat) (cs : List Value) (hx : a.eval x = .pointer (some ⟨b, o, none⟩)) (hy : a.eval y = .agg cs.toArray)
    (ht : w.there b o cs.length) (hi : (Try.prog.info? ty).map (·.size) = some cs.length) (h1 : cs.all (·.oneCell') = true)
    (h : wpList Try.prog ops Q rest (a.put op.dst undef) (w.setCells b o cs)) : wpList Try.prog ops Q (op :: rest) a w :=
  wpList_store_mid hgd ty x y ho b o cs.toArray hx hy (by simpa using ht) (by simpa using hi) (all_oneCell_toArray (List.all_eq_true.1 h1)) (by simpa using h)

set_option maxHeartbeats 2000000 in
theorem entry_any {toks : List Tok} {gT pb : Nat} {rawV : Value} {rl : List Int} {keep : Bool} {N : Nat} (hv : VC toks gT pb rawV rl keep N) (ts r : List Tok) (w : World) (hN : ts.length ≤ N) (hs : Suf toks ts) (he : ext rl.length ts 2 = some r) (hi : Inv toks gT pb rawV rl keep w ts) :
    Calls Try.prog 40 #[.pointer (some ⟨pb, 0, none⟩)] w fun e w' => ∃ c : List Value, e = .returned (.agg c.toArray) ∧ c.length = 20 ∧ VT rl.length (strOfNums rl) keep N w.heap.size w'.heap.size w' (c.take 10) ts ∧ VT rl.length (strOfNums rl) keep N w.heap.size w'.heap.size w' (c.drop 10) (aft rl.length ts 1) ∧ Inv toks gT pb rawV rl keep w' r ∧ w.grownBy w' (some pb) := by
  have e1 := (ext_part he (k := 1) (by omega)).1
  have e2 := (ext_part he (k := 1) (by omega)).2
  have hl1 := aft_len he (k := 1) (by omega)
  have HV := hide hv
  clear hv
  go_enter Try.func40, Try.ntmps40
  go_wp2_with fail
  refine (HV.out ts _ _ hN hs e1 (hi.alloc _)).mono ?_
  rintro e w1 ⟨cs1, rfl, hv1, hi1, hg1⟩
  obtain ⟨k1, b1, n1, d1, s1, m1, p1, q1, r1, p2, q2, r2, p3, q3, r3, hc1⟩ := hv1.cells
  subst hc1
  go_wp2_with fail
  refine (HV.out _ _ _ (by omega) (hs.ext e1) e2 hi1).mono ?_
  rintro e w2 ⟨cs2, rfl, hv2, hi2, hg2⟩
  obtain ⟨k1', b1', n1', d1', s1', m1', p1', q1', r1', p2', q2', r2', p3', q3', r3', hc2⟩ := hv2.cells
  subst hc2
  have hpb := hi.pb_lt
  have hz : w2.heap[w.heap.size]? = some (.cells (List.replicate 2 [.int .u8 0, .bool false, .int .i64 0, .float .f64 0, .string ⟨#[]⟩, .string ⟨#[]⟩, .slice none 0 0, .slice none 0 0, .slice none 0 0, .slice none 0 0]).flatten.toArray 64 (0, 0)) := by
    rw [hg2.block _ (Nat.lt_of_lt_of_le (by simp) hg1.size) (by simp; omega), hg1.block _ (by simp) (by simp; omega)]
    exact Go.Deep.blk_alloc_new _ _
  have hth : w2.there w.heap.size 0 20 := fun j hj => by
    rw [Nat.zero_add, blk_cell hz j, blk_frozen hz j]
    exact ⟨by simp; omega, rfl⟩
  have hst := fun vs (hl : vs.length = 20) => blk_setAll (vs := vs) hz (by rw [hl]; rfl)
  have hn1 : 0 + w.heap.size + 1 ≤ w1.heap.size := by have := hg1.size; simp at this; omega
  have hgg : w.grownBy w2 (some pb) := grown_trans (grown_trans (World.grownBy_alloc w _ (some pb)) hg1) hg2
  have H1 := hide hv1
  have H2 := hide hv2
  have H3 := hide hi2
  have H4 := hide hi
  have HG := hide hg2
  have HGG := hide hgg
  have HST := hide hst
  have HTH := hide hth
  clear hv1 hv2 hi2 hi1 hi hg1 hg2 hz hs he e1 e2 hl1 HV hst hth hgg
  go_wp2_with (refine wpl_store rfl 64 (.tmp 2) (.tmp 7) rfl w.heap.size 0 [.int .u8 k1, .bool b1, .int .i64 n1, .float .f64 d1, .string s1, .string m1, .slice p1 q1 r1, .slice p2 q2 r2, .slice none 0 0, .slice p3 q3 r3, .int .u8 k1', .bool b1', .int .i64 n1', .float .f64 d1', .string s1', .string m1', .slice p1' q1' r1', .slice p2' q2' r2', .slice none 0 0, .slice p3' q3' r3'] (by rfl) (by rfl) (by exact HTH.out) (by kernel_rfl) (by rfl) ?_)
  have hres := HST.out [.int .u8 k1, .bool b1, .int .i64 n1, .float .f64 d1, .string s1, .string m1, .slice p1 q1 r1, .slice p2 q2 r2, .slice none 0 0, .slice p3 q3 r3, .int .u8 k1', .bool b1', .int .i64 n1', .float .f64 d1', .string s1', .string m1', .slice p1' q1' r1', .slice p2' q2' r2', .slice none 0 0, .slice p3' q3' r3'] rfl
  have hgs : w.grownBy (w2.setCells w.heap.size 0 [.int .u8 k1, .bool b1, .int .i64 n1, .float .f64 d1, .string s1, .string m1, .slice p1 q1 r1, .slice p2 q2 r2, .slice none 0 0, .slice p3 q3 r3, .int .u8 k1', .bool b1', .int .i64 n1', .float .f64 d1', .string s1', .string m1', .slice p1' q1' r1', .slice p2' q2' r2', .slice none 0 0, .slice p3' q3' r3']) (some pb) := grown_setCells HGG.out (Nat.le_refl _)
  have hg3 : w2.grownBy (w2.setCells w.heap.size 0 [.int .u8 k1, .bool b1, .int .i64 n1, .float .f64 d1, .string s1, .string m1, .slice p1 q1 r1, .slice p2 q2 r2, .slice none 0 0, .slice p3 q3 r3, .int .u8 k1', .bool b1', .int .i64 n1', .float .f64 d1', .string s1', .string m1', .slice p1' q1' r1', .slice p2' q2' r2', .slice none 0 0, .slice p3' q3' r3']) (some w.heap.size) := grown_setCells_own
  have a1 : VT rl.length (strOfNums rl) keep N w.heap.size w2.heap.size (w2.setCells w.heap.size 0 [.int .u8 k1, .bool b1, .int .i64 n1, .float .f64 d1, .string s1, .string m1, .slice p1 q1 r1, .slice p2 q2 r2, .slice none 0 0, .slice p3 q3 r3, .int .u8 k1', .bool b1', .int .i64 n1', .float .f64 d1', .string s1', .string m1', .slice p1' q1' r1', .slice p2' q2' r2', .slice none 0 0, .slice p3' q3' r3']) _ ts :=
    ((H1.out.grown HG.out (Nat.le_refl _) (fun k hk => by cases hk; left; simp; omega)).grown hg3 HG.out.size (fun k hk => by cases hk; left; simp)).wider (by simp) HG.out.size
  have a2 : VT rl.length (strOfNums rl) keep N w.heap.size w2.heap.size (w2.setCells w.heap.size 0 [.int .u8 k1, .bool b1, .int .i64 n1, .float .f64 d1, .string s1, .string m1, .slice p1 q1 r1, .slice p2 q2 r2, .slice none 0 0, .slice p3 q3 r3, .int .u8 k1', .bool b1', .int .i64 n1', .float .f64 d1', .string s1', .string m1', .slice p1' q1' r1', .slice p2' q2' r2', .slice none 0 0, .slice p3' q3' r3']) _ (aft rl.length ts 1) :=
    (H2.out.grown hg3 (Nat.le_refl _) (fun k hk => by cases hk; left; omega)).wider (by omega) (Nat.le_refl _)
  refine bodyPost_ret (results_cell_row rfl _ _ w.heap.size 64 _ _ _ ?_ hres Try.underlying64 rfl ?_) rfl ?_
  · rfl
  · kernel_rfl
  exact ⟨_, rfl, rfl, by rw [size_setCells]; exact a1, by rw [size_setCells]; exact a2, H3.out.other hg3 ⟨hpb, H4.out.gt, H4.out.raw_lt⟩, hgs⟩

end Go.Proofs.Qxb6601678a.Bv
