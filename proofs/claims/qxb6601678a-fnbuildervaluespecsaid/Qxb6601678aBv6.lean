/-
  (*builder).value.
-/
import Derived.Test.Qxb6601678aBv5
import Derived.Deep.CutBlock
import Derived.Laws.MakeOwn
import Derived.Deep.RegionWith
namespace Go.Proofs.Qxb6601678a.Bv
open Go.RowKit Go.ChangeShapes Go.WideShapes Go.ChangeAt
set_option linter.unusedVariables false
set_option maxRecDepth 100000

attribute [local go_sem] run_store_float

/-- the cells of a zero Value -/
def zeroV : List Value := [.int .u8 0, .bool false, .int .i64 0, .float .f64 0, .string ⟨#[]⟩, .string ⟨#[]⟩, .slice none 0 0, .slice none 0 0, .slice none 0 0, .slice none 0 0]

/-- the head token, as the builder reads it -/
theorem Inv.head {toks : List Tok} {gT pb : Nat} {rawV : Value} {rl : List Int} {keep : Bool} {w : World} {t : Tok} {ts : List Tok} (h : Inv toks gT pb rawV rl keep w (t :: ts)) (hs : Suf toks (t :: ts)) :
    w.cell? ⟨pb, 0, none⟩ = some (.slice (some ⟨gT, (toks.length - (ts.length + 1)) * 8, none⟩) (ts.length + 1) (ts.length + 1)) ∧
    w.cell? ⟨gT, (toks.length - (ts.length + 1)) * 8, none⟩ = some (.int .u8 t.kind) ∧ w.cell? ⟨gT, (toks.length - (ts.length + 1)) * 8 + 1, none⟩ = some (.bool t.attr) ∧ w.cell? ⟨gT, (toks.length - (ts.length + 1)) * 8 + 2, none⟩ = some (.int .i64 t.count) ∧ w.cell? ⟨gT, (toks.length - (ts.length + 1)) * 8 + 3, none⟩ = some (.int .i64 t.frm) ∧
    w.cell? ⟨gT, (toks.length - (ts.length + 1)) * 8 + 4, none⟩ = some (.int .i64 t.to) ∧ w.cell? ⟨gT, (toks.length - (ts.length + 1)) * 8 + 5, none⟩ = some (.int .i64 t.integer) ∧ w.cell? ⟨gT, (toks.length - (ts.length + 1)) * 8 + 6, none⟩ = some (.float .f64 t.double) ∧ w.cell? ⟨gT, (toks.length - (ts.length + 1)) * 8 + 7, none⟩ = some (.bool t.boolean) := by
  obtain ⟨wv, _, hb⟩ := h.bld
  have hr := h.row.head hs.at
  simp only [Nat.zero_add] at hr
  refine ⟨?_, hr⟩
  rw [blk_cell hb 0]
  show some (tsv gT toks.length (ts.length + 1)) = _
  rw [tsv_pos (by omega)]

/-- the builder steps to the next token -/
theorem Inv.step {toks : List Tok} {gT pb : Nat} {rawV : Value} {rl : List Int} {keep : Bool} {w : World} {t : Tok} {ts : List Tok} (h : Inv toks gT pb rawV rl keep w (t :: ts)) (hs : Suf toks (t :: ts)) :
    Inv toks gT pb rawV rl keep (w.setCell ⟨pb, 0, none⟩ (tsv gT toks.length ts.length)) ts := by
  obtain ⟨wv, h1, hb⟩ := h.bld
  have hg : w.grownBy (w.setCell ⟨pb, 0, none⟩ (tsv gT toks.length ts.length)) (some pb) := ⟨rfl, rfl, rfl, by simp, fun k _ hne => Go.Deep.blk_setCell_other _ _ _ _ (fun e => hne (by simp [e]))⟩
  exact h.next hg ⟨wv, h1, blk_set hb 0 _⟩

theorem Inv.froz {toks : List Tok} {gT pb : Nat} {rawV : Value} {rl : List Int} {keep : Bool} {w : World} {ts : List Tok} (h : Inv toks gT pb rawV rl keep w ts) (i : Nat) : w.frozen? ⟨pb, i, none⟩ = false := by
  obtain ⟨wv, _, hb⟩ := h.bld
  exact blk_frozen hb i

theorem Inv.kp {toks : List Tok} {gT pb : Nat} {rawV : Value} {rl : List Int} {keep : Bool} {w : World} {ts : List Tok} (h : Inv toks gT pb rawV rl keep w ts) : w.cell? ⟨pb, 3, none⟩ = some (.bool keep) := by
  obtain ⟨wv, _, hb⟩ := h.bld
  rw [blk_cell hb 3]
  rfl

theorem grown_setCell_own {w : World} {b i : Nat} {v : Value} : w.grownBy (w.setCell ⟨b, i, none⟩ v) (some b) :=
  ⟨rfl, rfl, rfl, by simp, fun k _ hne => Go.Deep.blk_setCell_other _ _ _ _ (fun e => hne (by simp [e]))⟩

theorem grown_setCell {w w' : World} {b i : Nat} {v : Value} {row : Option Nat} (h : w.grownBy w' row) (hb : w.heap.size ≤ b) : w.grownBy (w'.setCell ⟨b, i, none⟩ v) row :=
  ⟨h.os, h.tape, h.output, by rw [Go.Deep.nblk_setCell]; exact h.size, fun k hk hne => by rw [Go.Deep.blk_setCell_other _ _ _ _ (show k ≠ b by omega)]; exact h.block k hk hne⟩

theorem AV.off {R : Nat} {raw : ByteArray} {keep : Bool} {N lo : Nat} {w : World} {av : Value} {es : List (List Tok)} (hk : keep = false) (h : av = .slice none 0 0) : AV R raw keep N lo w av es :=
  ⟨fun _ => h, fun _ => h, fun h' => absurd h' (by simp [hk])⟩

/-- how many tokens the builder still holds -/
def mlen (w : World) (pb : Nat) : Nat := match w.cell? ⟨pb, 0, none⟩ with | some (.slice _ n _) => n | _ => 0

theorem Inv.len {toks : List Tok} {gT pb : Nat} {rawV : Value} {rl : List Int} {keep : Bool} {w : World} {ts : List Tok} (h : Inv toks gT pb rawV rl keep w ts) : mlen w pb = ts.length := by
  obtain ⟨wv, _, hb⟩ := h.bld
  unfold mlen
  rw [blk_cell hb 0]
  show (match some (tsv gT toks.length ts.length) with | some (.slice _ n _) => n | _ => 0) = _
  by_cases h0 : ts.length = 0
  · rw [h0]; rfl
  · rw [tsv_pos h0]

/-- one attribute more -/
theorem attr_next {toks : List Tok} {gT pb : Nat} {rawV : Value} {rl : List Int} {keep : Bool} {N lo : Nat} {w0 wr w2 w3 w4 : World} {es : List (List Tok)} {s ts2 : List Tok} {av v' : Value} {xs c : List Value} (hk : keep = true) (hlo : pb < lo ∧ gT < lo ∧ ∀ g, rawV.ownBlock = some g → g < lo) (hlr : lo ≤ wr.heap.size)
    (hown : w3.ownsRow lo 64 20 av es.length xs) (hold : ∀ j, j < es.length → ∃ l h, lo ≤ l ∧ h ≤ w3.heap.size ∧ (∀ g, av.ownBlock = some g → g < l ∨ h ≤ g) ∧ VT rl.length (strOfNums rl) keep N l h w3 ((xs.drop (20 * j)).take 10) (es.getD j []) ∧ VT rl.length (strOfNums rl) keep N l h w3 ((xs.drop (20 * j + 10)).take 10) (aft rl.length (es.getD j []) 1))
    (hav : ∀ g, av.ownBlock = some g → g < wr.heap.size) (hc : c.length = 20) (n1 : VT rl.length (strOfNums rl) keep N wr.heap.size w2.heap.size w2 (c.take 10) s) (n2 : VT rl.length (strOfNums rl) keep N wr.heap.size w2.heap.size w2 (c.drop 10) (aft rl.length s 1))
    (hg23 : w2.grownBy w3 none) (hinv : Inv toks gT pb rawV rl keep w3 ts2) (hg03 : w0.grownBy w3 (some pb)) (hw0 : w0.heap.size ≤ lo)
    (hown' : w4.ownsRow lo 64 20 v' (es.length + 1) (xs ++ c)) (hg : w3.grownBy w4 av.ownBlock) (hv' : v'.ownBlock = av.ownBlock ∨ ∀ g, v'.ownBlock = some g → w3.heap.size ≤ g) :
    AV rl.length (strOfNums rl) keep N lo w4 v' (es ++ [s]) ∧ Inv toks gT pb rawV rl keep w4 ts2 ∧ w0.grownBy w4 (some pb) := by
  refine ⟨AV.append hk hown hold hc hlr hg23.size (fun g h => .inl (hav g h)) (n1.grown hg23 (Nat.le_refl _) (fun k h => by cases h)) (n2.grown hg23 (Nat.le_refl _) (fun k h => by cases h)) hown' hg hv', ?_, ?_⟩
  · cases hob : av.ownBlock with
    | none =>
      rw [hob] at hg
      exact hinv.same (fun k hk => hg.block k hk (by simp)) hg.size
    | some b =>
      have hb := (hown.lt b hob).1
      rw [hob] at hg
      exact hinv.other hg ⟨by omega, by omega, fun g h => by have := hlo.2.2 g h; omega⟩
  · refine ⟨hg.os.trans hg03.os, hg.tape.trans hg03.tape, hg.output.trans hg03.output, Nat.le_trans hg03.size hg.size, fun k hk hne => ?_⟩
    rw [hg.block k (Nat.lt_of_lt_of_le hk hg03.size) ?_]
    · exact hg03.block k hk hne
    · intro e
      have := (hown.lt k e.symm).1
      omega

/-- what stands behind the switch: the value's own block is written -/
def Done (toks : List Tok) (gT pb : Nat) (rawV : Value) (rl : List Int) (keep : Bool) (N : Nat) (wr wx : World) (t : Tok) (ms r : List Tok) (av : Value) : Prop :=
  ∃ iv ev : Value, wx.heap[wr.heap.size + 1]? = some (.cells #[.int .u8 t.kind, .bool (vBool t), .int .i64 (vInt t), .float .f64 (vFloat t), .string (vStr (strOfNums rl) t), .string (vFmt (strOfNums rl) t), iv, ev, .slice none 0 0, av] 46 (0, 0)) ∧
    Inv toks gT pb rawV rl keep wx r ∧ wr.grownBy wx (some pb) ∧
    ((isSeq t.kind = true → Arr wx (wr.heap.size + 2) wx.heap.size iv 10 t.count.toNat (fun j c => VT rl.length (strOfNums rl) keep N (wr.heap.size + 2) wx.heap.size wx c (aft rl.length ms j))) ∧ (isSeq t.kind = false → iv = .slice none 0 0)) ∧
    ((t.kind = 14 → Arr wx (wr.heap.size + 2) wx.heap.size ev 20 (half t).toNat (fun j c => VT rl.length (strOfNums rl) keep N (wr.heap.size + 2) wx.heap.size wx (c.take 10) (aft rl.length ms (2 * j)) ∧ VT rl.length (strOfNums rl) keep N (wr.heap.size + 2) wx.heap.size wx (c.drop 10) (aft rl.length ms (2 * j + 1)))) ∧ (t.kind ≠ 14 → ev = .slice none 0 0))

theorem done_plain {toks : List Tok} {gT pb : Nat} {rawV : Value} {rl : List Int} {keep : Bool} {N : Nat} {wr wx : World} {t : Tok} {ms r : List Tok} {av : Value} (h1 : isSeq t.kind = false) (h2 : t.kind ≠ 14) (he : ext rl.length ms (kids t) = some r)
    (hb : wx.heap[wr.heap.size + 1]? = some (.cells #[.int .u8 t.kind, .bool (vBool t), .int .i64 (vInt t), .float .f64 (vFloat t), .string (vStr (strOfNums rl) t), .string (vFmt (strOfNums rl) t), .slice none 0 0, .slice none 0 0, .slice none 0 0, av] 46 (0, 0)))
    (hi : Inv toks gT pb rawV rl keep wx ms) (hg : wr.grownBy wx (some pb)) : Done toks gT pb rawV rl keep N wr wx t ms r av := by
  have hr : ms = r := by
    have hk : kids t = 0 := by simp [kids, h1, h2]
    rw [hk, ext_zero] at he
    exact Option.some.inj he
  subst hr
  exact ⟨_, _, hb, hi, hg, ⟨fun h => absurd h (by simp [h1]), fun _ => rfl⟩, ⟨fun h => absurd h h2, fun _ => rfl⟩⟩

theorem AV.slice {R : Nat} {raw : ByteArray} {keep : Bool} {N lo : Nat} {w : World} {av : Value} {es : List (List Tok)} (h : AV R raw keep N lo w av es) : ∃ a l c, av = .slice a l c := by
  cases hk : keep with
  | false => exact ⟨_, _, _, h.1 hk⟩
  | true =>
    obtain ⟨xs, h1, _⟩ := h.2.2 hk
    rcases h1.2 with ⟨e, _⟩ | ⟨g, cap, cur, e, _⟩
    · exact ⟨_, _, _, e⟩
    · exact ⟨_, _, _, e⟩

/-- the token's own block -/
theorem tok_cells {w : World} {g : Nat} {t : Tok} (h : w.heap[g]? = some (.cells (tokCells t).toArray 71 (0, 0))) :
    w.cell? ⟨g, 0, none⟩ = some (.int .u8 t.kind) ∧ w.cell? ⟨g, 2, none⟩ = some (.int .i64 t.count) ∧ w.cell? ⟨g, 3, none⟩ = some (.int .i64 t.frm) ∧ w.cell? ⟨g, 4, none⟩ = some (.int .i64 t.to) ∧ w.cell? ⟨g, 5, none⟩ = some (.int .i64 t.integer) ∧ w.cell? ⟨g, 6, none⟩ = some (.float .f64 t.double) ∧ w.cell? ⟨g, 7, none⟩ = some (.bool t.boolean) := by
  refine ⟨?_, ?_, ?_, ?_, ?_, ?_, ?_⟩ <;> (rw [blk_cell h]; rfl)

/-- the value is whole -/
theorem finish {pb : Nat} {rl : List Int} {keep : Bool} {N : Nat} {w wr wc wF : World} {t : Tok} {ms ts : List Tok} {es : List (List Tok)} {iv ev av : Value} (hpb : pb < w.heap.size) (hwr : w.heap.size + 1 ≤ wr.heap.size) (hav : AV rl.length (strOfNums rl) keep N (w.heap.size + 1) wr av es) (hL : es = (atl rl.length ts.length ts).1 ∧ (atl rl.length ts.length ts).2 = t :: ms) (hat : t.attr = false) (hok : okTok rl.length t)
    (hsq : (isSeq t.kind = true → Arr wc (wr.heap.size + 2) wc.heap.size iv 10 t.count.toNat (fun j c => VT rl.length (strOfNums rl) keep N (wr.heap.size + 2) wc.heap.size wc c (aft rl.length ms j))) ∧ (isSeq t.kind = false → iv = .slice none 0 0))
    (hmp : (t.kind = 14 → Arr wc (wr.heap.size + 2) wc.heap.size ev 20 (half t).toNat (fun j c => VT rl.length (strOfNums rl) keep N (wr.heap.size + 2) wc.heap.size wc (c.take 10) (aft rl.length ms (2 * j)) ∧ VT rl.length (strOfNums rl) keep N (wr.heap.size + 2) wc.heap.size wc (c.drop 10) (aft rl.length ms (2 * j + 1)))) ∧ (t.kind ≠ 14 → ev = .slice none 0 0))
    (hg : wr.grownBy wc (some pb)) (hF : wc.grownBy wF (some w.heap.size)) :
    VT rl.length (strOfNums rl) keep (N + 1) w.heap.size wF.heap.size wF [.int .u8 t.kind, .bool (vBool t), .int .i64 (vInt t), .float .f64 (vFloat t), .string (vStr (strOfNums rl) t), .string (vFmt (strOfNums rl) t), iv, ev, .slice none 0 0, av] ts := by
  have ag1 : ∀ g, w.heap.size + 1 ≤ g → g < wr.heap.size → wF.heap[g]? = wr.heap[g]? := fun g h1 h2 => by
    rw [hF.block g (Nat.lt_of_lt_of_le h2 hg.size) (by simp; omega), hg.block g h2 (by simp; omega)]
  have ag2 : ∀ g, wr.heap.size + 2 ≤ g → g < wc.heap.size → wF.heap[g]? = wc.heap[g]? := fun g h1 h2 => hF.block g h2 (by simp; omega)
  have hs1 := Nat.le_trans hg.size hF.size
  obtain ⟨a1, a2⟩ := hav.arr
  rw [hL.1] at a1 a2
  refine ⟨t, ms, iv, ev, av, hL.2, hat, hok, rfl, ⟨fun h => ?_, hsq.2⟩, ⟨fun h => ?_, hmp.2⟩, ⟨fun h => ?_, a2⟩⟩
  · exact (hsq.1 h).turn (by omega) hF.size ag2 (fun j c _ k => k.stays _ (by omega) hF.size ag2)
  · exact (hmp.1 h).turn (by omega) hF.size ag2 (fun j c _ k => ⟨k.1.stays _ (by omega) hF.size ag2, k.2.stays _ (by omega) hF.size ag2⟩)
  · exact (a1 h).turn (by omega) hs1 ag1 (fun j c _ k => ⟨k.1.stays _ (by omega) hs1 ag1, k.2.stays _ (by omega) hs1 ag1⟩)

/-! ### a row of structs, filled from its head on -/

/-- the first j of n elements of sz cells are written -/
def RowI (V : World → Nat → Nat → Nat → List Value → Prop) (e : TypeId) (g sz n j : Nat) (w : World) : Prop :=
  ∃ M : Array Value, w.heap[g]? = some (.cells M e (0, 0)) ∧ M.size = n * sz ∧ ∀ i, i < j → ∃ (c : List Value) (l h : Nat), c.length = sz ∧ (∀ k u, c[k]? = some u → M[i * sz + k]? = some u) ∧ g < l ∧ h ≤ w.heap.size ∧ V w l h i c

/-- what is said of a piece holds on while its blocks stay -/
def Held (V : World → Nat → Nat → Nat → List Value → Prop) : Prop :=
  ∀ (w w' : World) (l l' h h' i : Nat) (c : List Value), V w l h i c → l' ≤ l → h ≤ h' → (∀ g, l ≤ g → g < h → w'.heap[g]? = w.heap[g]?) → V w' l' h' i c

theorem RowI.next {V : World → Nat → Nat → Nat → List Value → Prop} (hV : Held V) {e : TypeId} {g sz n j pb : Nat} {w w5 : World} {c : List Value} (h : RowI V e g sz n j w) (hj : j < n) (hpb : pb < g) (hg : w.grownBy w5 (some pb)) (hc : c.length = sz) (hn : V w5 w.heap.size w5.heap.size j c) : RowI V e g sz n (j + 1) (w5.setCells g (j * sz) c) := by
  obtain ⟨M, h1, h2, h3⟩ := h
  have hgl := blk_lt h1
  have h1' : w5.heap[g]? = some (.cells M e (0, 0)) := by rw [hg.block g hgl (by simp; omega)]; exact h1
  obtain ⟨M', a1, a2, a3, a4⟩ := blk_setCells c (j * sz) w5 M h1'
  have hms : (j + 1) * sz ≤ n * sz := Nat.mul_le_mul_right _ hj
  have hjs : (j + 1) * sz = j * sz + sz := Nat.succ_mul _ _
  refine ⟨M', a1, a2.trans h2, fun i hi => ?_⟩
  by_cases hlt : i < j
  · obtain ⟨c', l, h', b1, b2, b3, b4, b5⟩ := h3 i hlt
    refine ⟨c', l, h', b1, fun k u hu => ?_, b3, by rw [size_setCells]; exact Nat.le_trans b4 hg.size, hV _ _ _ _ _ _ _ _ b5 (Nat.le_refl _) (Nat.le_refl _) (fun q q1 q2 => ?_)⟩
    · have hk := (List.getElem?_eq_some_iff.1 hu).1
      have hle : (i + 1) * sz ≤ j * sz := Nat.mul_le_mul_right _ hlt
      have his : (i + 1) * sz = i * sz + sz := Nat.succ_mul _ _
      rw [a3 _ (by omega)]
      exact b2 k u hu
    · rw [heap_setCells_other g c _ w5 q (by omega), hg.block q (by omega) (by simp; omega)]
  · have hij : i = j := by omega
    subst hij
    refine ⟨c, w.heap.size, w5.heap.size, hc, fun k u hu => ?_, hgl, by rw [size_setCells]; exact Nat.le_refl _, hV _ _ _ _ _ _ _ _ hn (Nat.le_refl _) (Nat.le_refl _) (fun q q1 q2 => heap_setCells_other g c _ w5 q (by omega))⟩
    have hk := (List.getElem?_eq_some_iff.1 hu).1
    exact a4 k u hu (by rw [h2]; omega)

theorem RowI.arr {V : World → Nat → Nat → Nat → List Value → Prop} (hV : Held V) {e : TypeId} {g sz n : Nat} {w : World} (h : RowI V e g sz n n w) (hn : n ≤ maxLen) : Arr w g w.heap.size (.slice (some ⟨g, 0, none⟩) n n) sz n (fun i c => V w g w.heap.size i c) := by
  obtain ⟨M, h1, h2, h3⟩ := h
  refine ⟨g, n, rfl, Nat.le_refl _, blk_lt h1, Nat.le_refl _, hn, fun j hj => ?_⟩
  obtain ⟨c, l, h', b1, b2, b3, b4, b5⟩ := h3 j hj
  refine ⟨c, b1, fun i u hu => ?_, hV _ _ _ _ _ _ _ _ b5 (by omega) b4 (fun _ _ _ => rfl)⟩
  rw [blk_cell h1]
  exact b2 i u hu

theorem RowI.there {V : World → Nat → Nat → Nat → List Value → Prop} {e : TypeId} {g sz n j pb : Nat} {w w5 : World} (h : RowI V e g sz n j w) (hj : j < n) (hpb : pb < g) (hg : w.grownBy w5 (some pb)) : w5.there g (j * sz) sz := by
  obtain ⟨M, h1, h2, h3⟩ := h
  have h1' : w5.heap[g]? = some (.cells M e (0, 0)) := by rw [hg.block g (blk_lt h1) (by simp; omega)]; exact h1
  have hms : (j + 1) * sz ≤ n * sz := Nat.mul_le_mul_right _ hj
  have hjs : (j + 1) * sz = j * sz + sz := Nat.succ_mul _ _
  intro i hi
  rw [blk_cell h1', blk_frozen h1']
  exact ⟨by rw [Array.getElem?_eq_getElem (by omega)]; rfl, rfl⟩

/-- make of a row of structs -/
theorem wpl_make {ops : Array Oper} {rest : List Oper} {o : Oper} {a : Act} {w : World} {Q : Exit → Act → World → Prop} (hgd : o.guard = none) (t e : TypeId) (x : Operand) (ho : o.op = .makeSlice t x x) (z : Value) (size bytes : Nat) (ht : Try.prog.underlying t = some (.slice e)) (hi : (Try.prog.info? e).map (fun i => (i.zero, i.size, i.bytes)) = some (some z, size, bytes))
    (n : Nat) (hx : a.eval x = .int .i64 n) (hb : bytes * n ≤ 281474976710656) (hn : n ≤ 32768)
    (h : ∀ M : Array Value, M.size = n * size → wpList Try.prog ops Q rest (a.put o.dst (.slice (some ⟨w.heap.size, 0, none⟩) n n)) (w.alloc (.cells M e))) : wpList Try.prog ops Q (o :: rest) a w := by
  obtain ⟨i, hi', hz, hs1, hby⟩ := info_parts hi
  refine wpList_plain hgd fun K hK => ?_
  unfold Oper.wp
  have hbb : (i.bytes : Int) * (n : Int) ≤ 281474976710656 := by
    have h1 : ((bytes * n : Nat) : Int) ≤ 281474976710656 := by omega
    rw [hby]
    rwa [Int.natCast_mul] at h1
  have hr := run_make (P := Try.prog) w t e i z ht hi' hz .i64 .i64 n n (by omega) (Int.le_refl _) hbb (by omega)
  simp only [Int.toNat_natCast] at hr
  simp only [execOp, ho, hx]
  rw [Sem.run_bind, hr]
  have hM : (madeCells z.cells (n * i.size)).size = n * size := by rw [size_madeCells, hs1]
  exact hK _ _ (h _ hM)

theorem heldSeq (rl : List Int) (keep : Bool) (N : Nat) (ms : List Tok) : Held (fun w l h i c => VT rl.length (strOfNums rl) keep N l h w c (aft rl.length ms i)) :=
  fun w w' l l' h h' i c hv h1 h2 h3 => VT.stays N hv h1 h2 h3

theorem done_seq {toks : List Tok} {gT pb : Nat} {rawV : Value} {rl : List Int} {keep : Bool} {N : Nat} {wr wx : World} {t : Tok} {ms r : List Tok} {av : Value} {n : Nat} (hs : isSeq t.kind = true) (hcn : t.count = n) (hn : n ≤ 32768) (he : ext rl.length ms n = some r)
    (hb : wx.heap[wr.heap.size + 1]? = some (.cells #[.int .u8 t.kind, .bool false, .int .i64 0, .float .f64 0, .string ⟨#[]⟩, .string ⟨#[]⟩, .slice (some ⟨wr.heap.size + 2, 0, none⟩) n n, .slice none 0 0, .slice none 0 0, av] 46 (0, 0)))
    (hrow : RowI (fun w l h i c => VT rl.length (strOfNums rl) keep N l h w c (aft rl.length ms i)) 46 (wr.heap.size + 2) 10 n n wx)
    (hi : Inv toks gT pb rawV rl keep wx (aft rl.length ms n)) (hg : wr.grownBy wx (some pb)) : Done toks gT pb rawV rl keep N wr wx t ms r av := by
  rw [aft_eq he] at hi
  have hk := kind_seq hs
  have hnt := hk.1
  have hn13 : t.kind ≠ 13 := by simpa using hk.2.1
  have hn14 : t.kind ≠ 14 := by simpa using hk.2.2
  have hkx : t.kind = 5 ∨ t.kind = 15 ∨ t.kind = 16 := by unfold isSeq at hs; simp at hs; omega
  have hn3 : t.kind ≠ 3 := by omega
  have hn9 : t.kind ≠ 9 := by omega
  have hn10 : t.kind ≠ 10 := by omega
  refine ⟨.slice (some ⟨wr.heap.size + 2, 0, none⟩) n n, .slice none 0 0, ?_, hi, hg, ⟨fun _ => ?_, fun h => absurd h (by simp [hs])⟩, ⟨fun h => absurd h hn14, fun _ => rfl⟩⟩
  · rw [hb]
    simp only [vBool, vInt, vFloat, vStr, vFmt, hn3, hn9, hn10, hn13, hnt, if_false, Bool.false_eq_true]
    rfl
  · have := hrow.arr (heldSeq rl keep N ms) (by unfold maxLen; omega)
    rw [hcn]
    exact this

/-- a struct goes into its cells, as one step of a region that draws -/
theorem step_store {ops : Array Oper} {o : Oper} {a : Act} {w : World} {K : Act → World → Prop} {Q : Exit → Act → World → Prop} {E : Prop} (hg : o.guard = none) (ty : TypeId) (x y : Operand) (ho : o.op = .store ty x y)
    (b off : Nat) (cs : List Value) (hx : a.eval x = .pointer (some ⟨b, off, none⟩)) (hy : a.eval y = .agg cs.toArray) (ht : w.there b off cs.length) (hi : (Try.prog.info? ty).map (·.size) = some cs.length) (h1 : ∀ u ∈ cs, u.oneCell' = true)
    (hK : K (a.put o.dst undef) (w.setCells b off cs)) : if Region.wanted o (yielded ops a.tmps) = true then Oper.wp Try.prog o a w K Q else E := by
  have hw : Region.wanted o (yielded ops a.tmps) = true := by simp [Region.wanted, hg]
  rw [if_pos hw]
  exact wp_store_mid ty x y ho b off cs.toArray hx hy (by simpa using ht) (by simpa using hi) (all_oneCell_toArray h1) (by simpa using hK)

theorem heldMap (rl : List Int) (keep : Bool) (N : Nat) (ms : List Tok) : Held (fun w l h i c => VT rl.length (strOfNums rl) keep N l h w (c.take 10) (aft rl.length ms (2 * i)) ∧ VT rl.length (strOfNums rl) keep N l h w (c.drop 10) (aft rl.length ms (2 * i + 1))) :=
  fun w w' l l' h h' i c hv h1 h2 h3 => ⟨VT.stays N hv.1 h1 h2 h3, VT.stays N hv.2 h1 h2 h3⟩

theorem done_map {toks : List Tok} {gT pb : Nat} {rawV : Value} {rl : List Int} {keep : Bool} {N : Nat} {wr wx : World} {t : Tok} {ms r : List Tok} {av : Value} {n : Nat} (hk : t.kind = 14) (hcn : half t = n) (hn : n ≤ 32768) (he : ext rl.length ms (2 * n) = some r)
    (hb : wx.heap[wr.heap.size + 1]? = some (.cells #[.int .u8 t.kind, .bool false, .int .i64 0, .float .f64 0, .string ⟨#[]⟩, .string ⟨#[]⟩, .slice none 0 0, .slice (some ⟨wr.heap.size + 2, 0, none⟩) n n, .slice none 0 0, av] 46 (0, 0)))
    (hrow : RowI (fun w l h i c => VT rl.length (strOfNums rl) keep N l h w (c.take 10) (aft rl.length ms (2 * i)) ∧ VT rl.length (strOfNums rl) keep N l h w (c.drop 10) (aft rl.length ms (2 * i + 1))) 64 (wr.heap.size + 2) 20 n n wx)
    (hi : Inv toks gT pb rawV rl keep wx (aft rl.length ms (2 * n))) (hg : wr.grownBy wx (some pb)) : Done toks gT pb rawV rl keep N wr wx t ms r av := by
  rw [aft_eq he] at hi
  have hnt : isText t.kind = false := by rw [hk]; rfl
  have hns : isSeq t.kind = false := by rw [hk]; rfl
  have hn13 : t.kind ≠ 13 := by omega
  have hn3 : t.kind ≠ 3 := by omega
  have hn9 : t.kind ≠ 9 := by omega
  have hn10 : t.kind ≠ 10 := by omega
  refine ⟨.slice none 0 0, .slice (some ⟨wr.heap.size + 2, 0, none⟩) n n, ?_, hi, hg, ⟨fun h => absurd h (by simp [hns]), fun _ => rfl⟩, ⟨fun _ => ?_, fun h => absurd hk h⟩⟩
  · rw [hb]
    simp only [vBool, vInt, vFloat, vStr, vFmt, hn3, hn9, hn10, hn13, hnt, if_false, Bool.false_eq_true]
    rfl
  · have := hrow.arr (heldMap rl keep N ms) (by unfold maxLen; omega)
    rw [hcn]
    exact this

set_option maxHeartbeats 8000000 in
theorem value_step {toks : List Tok} {gT pb : Nat} {rawV : Value} {rl : List Int} {keep : Bool} {N : Nat} (hv : VC toks gT pb rawV rl keep N) (hwf : ∀ t ∈ toks, TokWf t) (hn : toks.length ≤ 32768) (hrl : rl.length ≤ 1048576) : VC toks gT pb rawV rl keep (N + 1) := by
  intro ts r w hN hs he hi
  have hpb := hi.pb_lt
  have hsle := hs.le
  have HV := hide hv
  have HWF := hide hwf
  have HLW := hide (show gT < w.heap.size ∧ ∀ g, rawV.ownBlock = some g → g < w.heap.size from ⟨hi.gt, hi.raw_lt⟩)
  have HLO := hide (show pb < w.heap.size + 1 ∧ gT < w.heap.size + 1 ∧ ∀ g, rawV.ownBlock = some g → g < w.heap.size + 1 from ⟨by omega, by have := hi.gt; omega, fun g hg => by have := hi.raw_lt g hg; omega⟩)
  have HS := hide hs
  have HE := hide he
  have HI := hide (hi.alloc (.cells zeroV.toArray 46))
  unfold zeroV at HI
  have HG0 := hide (World.grownBy.refl (w.alloc (.cells zeroV.toArray 46)) (some pb))
  unfold zeroV at HG0
  have HA0 := hide (AV.start rl.length (strOfNums rl) keep N (w.heap.size + 1) (w.alloc (.cells zeroV.toArray 46)))
  unfold zeroV at HA0
  clear hv hwf hi hs he
  go_enter Try.func39, Try.ntmps39
  go_wp2_with fail
  go_loopw [3] (fun av wr => ∃ (f : Nat) (cur : List Tok) (es : List (List Tok)), cur.length ≤ f ∧ es.length + cur.length ≤ ts.length ∧ Hid (es ++ (atl rl.length f cur).1 = (atl rl.length ts.length ts).1 ∧ (atl rl.length f cur).2 = (atl rl.length ts.length ts).2) ∧ Suf toks cur ∧ Hid (ext rl.length cur 1 = some r) ∧ Inv toks gT pb rawV rl keep wr cur ∧ AV rl.length (strOfNums rl) keep N (w.heap.size + 1) wr av es ∧ (w.alloc (.cells zeroV.toArray 46)).grownBy wr (some pb)) (fun _ wr => mlen wr pb)
  case atStart => exact ⟨ts.length, ts, [], Nat.le_refl _, by simp, ⟨by simp, rfl⟩, HS.out, HE.out, HI.out, HA0.out, HG0.out⟩
  case round =>
    clear HI HA0 HG0
    obtain ⟨f, cur, es, hcf, hcl, HL, hsu, HX, hinv, hav, hgr⟩ := hrel
    obtain ⟨t, cur', rfl⟩ : ∃ t cur', cur = t :: cur' := by
      cases cur with
      | nil => exact absurd HX.out (by simp [ext])
      | cons t c => exact ⟨t, c, rfl⟩
    obtain ⟨d0, d1, d2, d3, d4, d5, d6, d7, d8⟩ := hinv.head hsu
    have hf0 := hinv.froz 0
    have hml := hinv.len
    obtain ⟨wk, wc, wf, wo⟩ := HWF.out t (List.mem_of_getElem? hsu.at)
    rcases hat : t.attr with _ | _
    · rw [hat] at d2
      obtain ⟨hok, HXk⟩ : okTok rl.length t ∧ Hid (ext rl.length cur' (kids t) = some r) := by
        have h0 := HX.out
        cases ho : okB rl.length t with
        | false => rw [ext_bad (by omega) hat ho] at h0; cases h0
        | true =>
          rw [ext_main (by omega) hat ho, show 1 - 1 + kids t = kids t by omega] at h0
          exact ⟨(okB_iff _ _).1 ho, h0⟩
      have HFT : Hid (Fresh wr ((wr.alloc (.cells #[.int .u8 0, .bool false, .int .i64 0, .int .i64 0, .int .i64 0, .int .i64 0, .float .f64 0, .bool false] 71)).setCells wr.heap.size 0 (tokCells t)) (tokCells t) 71) := fresh_store (z := #[.int .u8 0, .bool false, .int .i64 0, .int .i64 0, .int .i64 0, .int .i64 0, .float .f64 0, .bool false]) (cs := tokCells t) (by rfl)
      have HRG : Hid (wr.rangeAt gT ((toks.length - (cur'.length + 1)) * 8) (tokCells t)) := fun j v hv => by
        have := hinv.row _ t hsu.at j v hv
        rwa [Nat.zero_add] at this
      have HTH : Hid ((wr.alloc (.cells #[.int .u8 0, .bool false, .int .i64 0, .int .i64 0, .int .i64 0, .int .i64 0, .float .f64 0, .bool false] 71)).there wr.heap.size 0 8) := there_new
      have HAV := hide hav
      have HGR := hide hgr
      have HIN := hide hinv
      have HSU := hide hsu
      have HAT := hide hat
      have HOK := hide hok
      have hpw := hinv.pb_lt
      clear hinv hav hgr hsu hat HX hok
      go_upto_region 11 with fail
      go_cut [6] from 11 (fun s6 wc => s6 = .pointer (some ⟨wr.heap.size, 0, none⟩) ∧ Fresh wr wc (tokCells t) 71)
      case first =>
        go_wp2_with (first | (refine wpList_load_mid rfl 71 (.tmp 52) rfl gT ((toks.length - (cur'.length + 1)) * 8) (by rfl) (tokCells t) _ (by exact HRG.out) Try.underlying71 (by rfl) (by kernel_rfl) ?_) | (refine wpl_store rfl 71 (.tmp 6) (.tmp 53) rfl wr.heap.size 0 (tokCells t) (by rfl) (by rfl) (by exact HTH.out) (by kernel_rfl) (by rfl) ?_))
        go_meet
        case rel => exact ⟨rfl, HFT.out⟩
      case rest =>
        clear d0 d1 d2 d3 d4 d5 d6 d7 d8 hf0 HFT HTH HRG
        obtain ⟨rfl, hfc⟩ := hcut
        have hi1 := HIN.out.same (fun k hk => hfc.grown.block k hk (by simp)) hfc.grown.size
        have hd0 := (hi1.head HSU.out).1
        have hf0 := hi1.froz 0
        have hst := hi1.step HSU.out
        have hle1 := HSU.out.le
        have e8 : cur'.length ≠ 0 → (toks.length - (cur'.length + 1)) * 8 + 8 = (toks.length - cur'.length) * 8 := by simp at hle1; omega
        have HST := hide hst
        have HFC := hide hfc
        clear hi1 hst hfc
        go_upto_region 12 with fail
        go_cut [] from 11 (fun wd => Inv toks gT pb rawV rl keep wd cur' ∧ wr.grownBy wd (some pb) ∧ wd.heap.size = wr.heap.size + 1 ∧ wd.heap[wr.heap.size]? = some (.cells (tokCells t).toArray 71 (0, 0)))
        case first =>
          have HG : Hid (wr.grownBy (wc.setCell ⟨pb, 0, none⟩ (tsv gT toks.length cur'.length)) (some pb) ∧ (wc.setCell ⟨pb, 0, none⟩ (tsv gT toks.length cur'.length)).heap.size = wr.heap.size + 1 ∧ (wc.setCell ⟨pb, 0, none⟩ (tsv gT toks.length cur'.length)).heap[wr.heap.size]? = some (.cells (tokCells t).toArray 71 (0, 0))) :=
            ⟨grown_trans (grown_weak HFC.out.grown) grown_setCell_own, by rw [Go.Deep.nblk_setCell]; exact HFC.out.size, by rw [Go.Deep.blk_setCell_other _ _ _ _ (show wr.heap.size ≠ pb by omega)]; exact HFC.out.blk⟩
          by_cases h0 : cur'.length = 0
          · have hv : tsv gT toks.length cur'.length = .slice (some ⟨gT, (toks.length - (0 + 1)) * 8, none⟩) 0 0 := by rw [h0]; rfl
            rw [hv] at HG HST
            rw [h0] at hd0
            clear e8
            go_wp2_with fail
            go_meet
            case rel => exact ⟨HST.out, HG.out⟩
          · have hv : tsv gT toks.length cur'.length = .slice (some ⟨gT, (toks.length - (cur'.length + 1)) * 8 + 8, none⟩) cur'.length cur'.length := by rw [tsv_pos h0, e8 h0]
            rw [hv] at HG HST
            clear e8
            go_wp2_with fail
            go_meet
            case rel => exact ⟨HST.out, HG.out⟩
        case rest =>
          clear HST HFC hd0 hf0 e8
          obtain ⟨hi2, hg2, hsz2, hb2⟩ := hcut
          obtain ⟨av1, av2, av3, hav3⟩ := HAV.out.slice
          subst hav3
          obtain ⟨c0, c2, c3, c4, c5, c6, c7⟩ := tok_cells hb2
          have HTH : Hid ((wc.alloc (.cells #[.int .u8 0, .bool false, .int .i64 0, .float .f64 0, .string ⟨#[]⟩, .string ⟨#[]⟩, .slice none 0 0, .slice none 0 0, .slice none 0 0, .slice none 0 0] 46)).there wc.heap.size 0 10) := there_new
          have HFT : Hid (Fresh wc ((wc.alloc (.cells #[.int .u8 0, .bool false, .int .i64 0, .float .f64 0, .string ⟨#[]⟩, .string ⟨#[]⟩, .slice none 0 0, .slice none 0 0, .slice none 0 0, .slice none 0 0] 46)).setCells wc.heap.size 0 [.int .u8 t.kind, .bool false, .int .i64 0, .float .f64 0, .string ⟨#[]⟩, .string ⟨#[]⟩, .slice none 0 0, .slice none 0 0, .slice none 0 0, .slice av1 av2 av3]) [.int .u8 t.kind, .bool false, .int .i64 0, .float .f64 0, .string ⟨#[]⟩, .string ⟨#[]⟩, .slice none 0 0, .slice none 0 0, .slice none 0 0, .slice av1 av2 av3] 46) := fresh_store (z := #[.int .u8 0, .bool false, .int .i64 0, .float .f64 0, .string ⟨#[]⟩, .string ⟨#[]⟩, .slice none 0 0, .slice none 0 0, .slice none 0 0, .slice none 0 0]) (by rfl)
          have HI2 := hide hi2
          have HG2 := hide hg2
          have HB2 := hide hb2
          have HSZ := hide hsz2
          clear hi2 hg2 hb2 hsz2
          go_upto_region 13 with fail
          go_cut [7] from 11 (fun s7 wd => s7 = .pointer (some ⟨wr.heap.size + 1, 0, none⟩) ∧ Fresh wc wd [.int .u8 t.kind, .bool false, .int .i64 0, .float .f64 0, .string ⟨#[]⟩, .string ⟨#[]⟩, .slice none 0 0, .slice none 0 0, .slice none 0 0, .slice av1 av2 av3] 46)
          case first =>
            go_wp2_with (refine wpl_store rfl 46 (.tmp 7) (.tmp 65) rfl wc.heap.size 0 [.int .u8 t.kind, .bool false, .int .i64 0, .float .f64 0, .string ⟨#[]⟩, .string ⟨#[]⟩, .slice none 0 0, .slice none 0 0, .slice none 0 0, .slice av1 av2 av3] (by rfl) (by rfl) (by exact HTH.out) (by kernel_rfl) (by rfl) ?_)
            go_meet
            case rel => exact ⟨by rw [HSZ.out], HFT.out⟩
          case rest =>
            clear HTH HFT c0 c2 c3 c4 c5 c6 c7
            obtain ⟨rfl, hfd⟩ := hcut
            have hsz3 : wc.heap.size = wr.heap.size + 2 := by rw [hfd.size, HSZ.out]
            have hb6 := (hfd.grown.block _ (by rw [HSZ.out]; exact Nat.lt_succ_self _) (by simp)).trans HB2.out
            have hb7 := hfd.blk
            rw [HSZ.out] at hb7
            have hi3 := HI2.out.same (fun k hk => hfd.grown.block k hk (by simp)) hfd.grown.size
            have hg3 := grown_trans HG2.out (grown_weak hfd.grown)
            obtain ⟨c0, c2, c3, c4, c5, c6, c7⟩ := tok_cells hb6
            have HB7 := hide hb7
            have HI3 := hide hi3
            have HG3 := hide hg3
            clear hfd HB2 HI2 HG2 HSZ hb6 hb7 hi3 hg3
            go_upto_block 4 with fail
            go_cut [] from 8 (fun wx => Done toks gT pb rawV rl keep N wr wx t cur' r (.slice av1 av2 av3))
            case first =>
              by_cases htx : isText t.kind = true
              -- BEGIN KT
              · have hns := (kind_text htx).2.1
                have hn14 : t.kind ≠ 14 := by simpa using (kind_text htx).2.2
                obtain ⟨ok1, ok2, ok3⟩ := HOK.out.1 (.inl htx)
                have hkx : t.kind = 1 ∨ t.kind = 2 ∨ t.kind = 4 ∨ t.kind = 12 ∨ t.kind = 11 := by unfold isText at htx; simp at htx; omega
                have HTX := hide htx
                have HNS := hide hns
                clear htx hns
                rcases hkx with hk | hk | hk | hk | hk
                all_goals
                  as_aux_lemma =>
                    rw [hk]
                    go_wp2_with fail
                    refine (text_any pb _ rawV rl keep t.frm t.to wc HI3.out.bld HI3.out.raw hrl ok1 ok2 ok3).mono ?_
                    rintro e w2 ⟨rfl, hbd, hgx⟩
                    have hb7 := (hgx.block _ (by rw [hsz3]; omega) (by simp; omega)).trans HB7.out
                    have hf4 := blk_frozen hb7 4
                    have hc4 : w2.cell? ⟨wr.heap.size + 1, 4, none⟩ = some (.string ⟨#[]⟩) := by rw [blk_cell hb7 4]; rfl
                    have HRel : Hid (Done toks gT pb rawV rl keep N wr (w2.setCell ⟨wr.heap.size + 1, 4, none⟩ (.string ((strOfNums rl).extract t.frm.toNat t.to.toNat))) t cur' r (.slice av1 av2 av3)) := by
                      refine done_plain HNS.out hn14 HXk.out ?_ ((HI3.out.next hgx hbd).other grown_setCell_own ⟨by omega, by have := HIN.out.gt; omega, fun g hg => by have := HIN.out.raw_lt g hg; omega⟩) (grown_setCell (grown_trans HG3.out hgx) (by omega))
                      rw [blk_set hb7 4]
                      have hn13 : t.kind ≠ 13 := by omega
                      have hn3 : t.kind ≠ 3 := by omega
                      have hn9 : t.kind ≠ 9 := by omega
                      have hn10 : t.kind ≠ 10 := by omega
                      simp only [vBool, vInt, vFloat, vStr, vFmt, hn13, hn3, hn9, hn10, HTX.out, if_true, if_false]
                      rfl
                    clear hb7 hbd hgx
                    go_wp2_with fail
                    go_meet
                    case rel => exact HRel.out
              -- END KT
              · have hnt : isText t.kind = false := by simpa using htx
                have hne : t.kind ≠ 1 ∧ t.kind ≠ 2 ∧ t.kind ≠ 4 ∧ t.kind ≠ 12 ∧ t.kind ≠ 11 := by unfold isText at hnt; simp at hnt; omega
                have HNT := hide hnt
                clear htx hnt
                by_cases hk3 : t.kind = 3
                -- BEGIN K3
                · as_aux_lemma =>
                    rw [hk3]
                    have hf := blk_frozen HB7.out 2
                    have hc : wc.cell? ⟨wr.heap.size + 1, 2, none⟩ = some (.int .i64 0) := by rw [blk_cell HB7.out 2]; rfl
                    have HRel : Hid (Done toks gT pb rawV rl keep N wr (wc.setCell ⟨wr.heap.size + 1, 2, none⟩ (.int .i64 t.integer)) t cur' r (.slice av1 av2 av3)) := by
                      refine done_plain (by rw [hk3]; rfl) (by omega) HXk.out ?_ (HI3.out.other grown_setCell_own ⟨by omega, by have := HIN.out.gt; omega, fun g hg => by have := HIN.out.raw_lt g hg; omega⟩) (grown_setCell HG3.out (by omega))
                      rw [blk_set HB7.out 2]
                      have hnt : isText t.kind = false := by rw [hk3]; rfl
                      have hn13 : t.kind ≠ 13 := by omega
                      have hn3 : (t.kind = 3) = True := by simp; omega
                      have hn9 : (t.kind = 9) = False := by simp; omega
                      have hn10 : (t.kind = 10) = False := by simp; omega
                      simp only [vBool, vInt, vFloat, vStr, vFmt, hn13, hn3, hn9, hn10, hnt, if_true, if_false, Bool.false_eq_true]
                      rfl
                    go_wp2_with fail
                    go_meet
                    case rel => exact HRel.out
                -- END K3
                by_cases hk10 : t.kind = 10
                -- BEGIN K10
                · as_aux_lemma =>
                    rw [hk10]
                    have hf := blk_frozen HB7.out 3
                    have hc : wc.cell? ⟨wr.heap.size + 1, 3, none⟩ = some (.float .f64 0) := by rw [blk_cell HB7.out 3]; rfl
                    have HRel : Hid (Done toks gT pb rawV rl keep N wr (wc.setCell ⟨wr.heap.size + 1, 3, none⟩ (.float .f64 t.double)) t cur' r (.slice av1 av2 av3)) := by
                      refine done_plain (by rw [hk10]; rfl) (by omega) HXk.out ?_ (HI3.out.other grown_setCell_own ⟨by omega, by have := HIN.out.gt; omega, fun g hg => by have := HIN.out.raw_lt g hg; omega⟩) (grown_setCell HG3.out (by omega))
                      rw [blk_set HB7.out 3]
                      have hnt : isText t.kind = false := by rw [hk10]; rfl
                      have hn13 : t.kind ≠ 13 := by omega
                      have hn3 : (t.kind = 3) = False := by simp; omega
                      have hn9 : (t.kind = 9) = False := by simp; omega
                      have hn10 : (t.kind = 10) = True := by simp; omega
                      simp only [vBool, vInt, vFloat, vStr, vFmt, hn13, hn3, hn9, hn10, hnt, if_true, if_false, Bool.false_eq_true]
                      rfl
                    go_wp2_with fail
                    go_meet
                    case rel => exact HRel.out
                -- END K10
                by_cases hk9 : t.kind = 9
                -- BEGIN K9
                · as_aux_lemma =>
                    rw [hk9]
                    have hf := blk_frozen HB7.out 1
                    have hc : wc.cell? ⟨wr.heap.size + 1, 1, none⟩ = some (.bool false) := by rw [blk_cell HB7.out 1]; rfl
                    have HRel : Hid (Done toks gT pb rawV rl keep N wr (wc.setCell ⟨wr.heap.size + 1, 1, none⟩ (.bool t.boolean)) t cur' r (.slice av1 av2 av3)) := by
                      refine done_plain (by rw [hk9]; rfl) (by omega) HXk.out ?_ (HI3.out.other grown_setCell_own ⟨by omega, by have := HIN.out.gt; omega, fun g hg => by have := HIN.out.raw_lt g hg; omega⟩) (grown_setCell HG3.out (by omega))
                      rw [blk_set HB7.out 1]
                      have hnt : isText t.kind = false := by rw [hk9]; rfl
                      have hn13 : t.kind ≠ 13 := by omega
                      have hn3 : (t.kind = 3) = False := by simp; omega
                      have hn9 : (t.kind = 9) = True := by simp; omega
                      have hn10 : (t.kind = 10) = False := by simp; omega
                      simp only [vBool, vInt, vFloat, vStr, vFmt, hn13, hn3, hn9, hn10, hnt, if_true, if_false, Bool.false_eq_true]
                      rfl
                    go_wp2_with fail
                    go_meet
                    case rel => exact HRel.out
                -- END K9
                by_cases h13 : t.kind = 13
                -- BEGIN K13
                · as_aux_lemma =>
                    obtain ⟨ok1, ok2, ok3⟩ := HOK.out.1 (.inr h13)
                    have ok4 := HOK.out.2.1 h13
                    rw [h13]
                    go_wp2_with fail
                    refine (text_any pb _ rawV rl keep t.frm t.to wc HI3.out.bld HI3.out.raw hrl ok1 ok2 ok3).mono ?_
                    rintro e w2 ⟨rfl, hbd, hgx⟩
                    have hb7 := (hgx.block _ (by rw [hsz3]; omega) (by simp; omega)).trans HB7.out
                    have hf4 := blk_frozen hb7 4
                    have hc4 : w2.cell? ⟨wr.heap.size + 1, 4, none⟩ = some (.string ⟨#[]⟩) := by rw [blk_cell hb7 4]; rfl
                    have hf5 := blk_frozen hb7 5
                    have hc5 : w2.cell? ⟨wr.heap.size + 1, 5, none⟩ = some (.string ⟨#[]⟩) := by rw [blk_cell hb7 5]; rfl
                    have hss : ((strOfNums rl).extract t.frm.toNat t.to.toNat).size = t.to.toNat - t.frm.toNat := by
                      rw [ByteArray.size_extract, strOfNums_size]; omega
                    have e1 : (((strOfNums rl).extract t.frm.toNat t.to.toNat)).extract 0 3 = (strOfNums rl).extract t.frm.toNat (t.frm.toNat + 3) := by
                      rw [ByteArray.extract_extract]; congr 1; omega
                    have e2 : (((strOfNums rl).extract t.frm.toNat t.to.toNat)).extract 4 (t.to.toNat - t.frm.toNat) = (strOfNums rl).extract (t.frm.toNat + 4) t.to.toNat := by
                      rw [ByteArray.extract_extract]; congr 1; omega
                    have hls : 4 ≤ ((strOfNums rl).extract t.frm.toNat t.to.toNat).size := by omega
                    generalize hS : (strOfNums rl).extract t.frm.toNat t.to.toNat = S at *
                    have hi5 := HI3.out.next hgx hbd
                    have HI5 := hide hi5
                    have HG5 := hide (grown_trans HG3.out hgx)
                    have HB := hide hb7
                    clear hbd hgx hb7 hi5
                    go_wp2_with fail
                    go_region
                    go_wp2_with fail
                    go_meet
                    case rel =>
                      have hlo3 : pb < wr.heap.size + 1 ∧ gT < wr.heap.size + 1 ∧ ∀ g, rawV.ownBlock = some g → g < wr.heap.size + 1 := ⟨by omega, by have := HIN.out.gt; omega, fun g hg => by have := HIN.out.raw_lt g hg; omega⟩
                      refine done_plain (by rw [h13]; rfl) (by omega) HXk.out ?_ (((HI5.out.other grown_setCell_own hlo3).other grown_setCell_own hlo3).same (fun _ _ => rfl) (Nat.le_refl _)) (grown_drewN (n := 1) (grown_setCell (grown_setCell HG5.out (by omega)) (by omega)))
                      refine (blk_set (blk_set HB.out 5 _) 4 _).trans ?_
                      have hnt := HNT.out
                      have hn3 : t.kind ≠ 3 := by omega
                      have hn9 : t.kind ≠ 9 := by omega
                      have hn10 : t.kind ≠ 10 := by omega
                      simp only [vBool, vInt, vFloat, vStr, vFmt, hn3, hn9, hn10, hnt, if_false, Bool.false_eq_true]
                      rw [if_pos h13, if_pos h13]
                      rfl
                -- END K13
                by_cases h14 : t.kind = 14
                -- BEGIN KM
                · obtain ⟨wA, hwA⟩ : ∃ x : World, x = wr := ⟨_, rfl⟩
                  subst hwA
                  have hct : 0 ≤ half t := HOK.out.2.2.2 h14
                  obtain ⟨n, hcn⟩ : ∃ n : Nat, half t = n := ⟨(half t).toNat, by omega⟩
                  have hcq : t.count.tdiv 2 = (n : Int) := hcn
                  have HXs : Hid (ext rl.length cur' (2 * n) = some r) := by
                    have := HXk.out
                    rw [show kids t = 2 * n by simp [kids, isSeq, h14, hcn]] at this
                    exact this
                  have hnl := ext_len _ _ _ HXs.out
                  have hf6 := blk_frozen HB7.out 7
                  have hc6 : wc.cell? ⟨wA.heap.size + 1, 7, none⟩ = some (.slice none 0 0) := by rw [blk_cell HB7.out 7]; rfl
                  have hle1 := HSU.out.le
                  rw [List.length_cons] at hle1
                  all_goals
                    as_aux_lemma =>
                      rw [h14]
                      go_upto_region 40 with fail
                      go_cut [] from 8 (fun wd => wd.heap[wA.heap.size + 1]? = some (.cells #[.int .u8 t.kind, .bool false, .int .i64 0, .float .f64 0, .string ⟨#[]⟩, .string ⟨#[]⟩, .slice none 0 0, .slice (some ⟨wA.heap.size + 2, 0, none⟩) n n, .slice none 0 0, .slice av1 av2 av3] 46 (0, 0)) ∧ RowI (fun w l h i c => VT rl.length (strOfNums rl) keep N l h w (c.take 10) (aft rl.length cur' (2 * i)) ∧ VT rl.length (strOfNums rl) keep N l h w (c.drop 10) (aft rl.length cur' (2 * i + 1))) 64 (wA.heap.size + 2) 20 n 0 wd ∧ Inv toks gT pb rawV rl keep wd cur' ∧ wA.grownBy wd (some pb))
                      case first =>
                        go_wp2_with (refine wpl_make rfl 43 64 (.tmp 131) rfl _ 20 304 Try.underlying43 info64 n (by rfl) (by omega) (by omega) ?_)
                        intro M hM
                        have HRel : Hid (((wc.setCell ⟨wA.heap.size + 1, 7, none⟩ (.slice (some ⟨wA.heap.size + 2, 0, none⟩) n n)).alloc (.cells M 64)).heap[wA.heap.size + 1]? = some (.cells #[.int .u8 t.kind, .bool false, .int .i64 0, .float .f64 0, .string ⟨#[]⟩, .string ⟨#[]⟩, .slice none 0 0, .slice (some ⟨wA.heap.size + 2, 0, none⟩) n n, .slice none 0 0, .slice av1 av2 av3] 46 (0, 0)) ∧ RowI (fun w l h i c => VT rl.length (strOfNums rl) keep N l h w (c.take 10) (aft rl.length cur' (2 * i)) ∧ VT rl.length (strOfNums rl) keep N l h w (c.drop 10) (aft rl.length cur' (2 * i + 1))) 64 (wA.heap.size + 2) 20 n 0 ((wc.setCell ⟨wA.heap.size + 1, 7, none⟩ (.slice (some ⟨wA.heap.size + 2, 0, none⟩) n n)).alloc (.cells M 64)) ∧ Inv toks gT pb rawV rl keep ((wc.setCell ⟨wA.heap.size + 1, 7, none⟩ (.slice (some ⟨wA.heap.size + 2, 0, none⟩) n n)).alloc (.cells M 64)) cur' ∧ wA.grownBy ((wc.setCell ⟨wA.heap.size + 1, 7, none⟩ (.slice (some ⟨wA.heap.size + 2, 0, none⟩) n n)).alloc (.cells M 64)) (some pb)) := by
                          have hs5 : (wc.setCell ⟨wA.heap.size + 1, 7, none⟩ (.slice (some ⟨wA.heap.size + 2, 0, none⟩) n n)).heap.size = wA.heap.size + 2 := by rw [Go.Deep.nblk_setCell, hsz3]
                          refine ⟨?_, ⟨M, ?_, hM, fun i hi => absurd hi (Nat.not_lt_zero _)⟩, (HI3.out.other grown_setCell_own ⟨by omega, by have := HIN.out.gt; omega, fun g hg => by have := HIN.out.raw_lt g hg; omega⟩).alloc _, grown_trans (grown_setCell HG3.out (by omega)) (World.grownBy_alloc _ _ _)⟩
                          · rw [Go.Deep.blk_alloc_lt _ _ _ (by rw [hs5]; omega), blk_set HB7.out 7]
                            rfl
                          · have := Go.Deep.blk_alloc_new (wc.setCell ⟨wA.heap.size + 1, 7, none⟩ (.slice (some ⟨wA.heap.size + 2, 0, none⟩) n n)) (.cells M 64)
                            rw [hs5] at this
                            exact this
                        go_wp2_with fail
                        go_meet
                        case rel => exact HRel.out
                      case rest =>
                        clear c0 c2 c3 c4 c5 c6 c7 hf6 hc6 HB7 HI3 HG3 hsz3
                        obtain ⟨hb8, hrow, hi8, hg8⟩ := hcut
                        have hc6 : wc.cell? ⟨wA.heap.size + 1, 7, none⟩ = some (.slice (some ⟨wA.heap.size + 2, 0, none⟩) n n) := by rw [blk_cell hb8]; rfl
                        have HB8 := hide hb8
                        have HRO := hide hrow
                        have HI8 := hide hi8
                        have HG8 := hide hg8
                        clear hb8 hrow hi8 hg8
                        go_wp2_with fail
                        go_loopw [137] (fun iv wv => ∃ j : Nat, j ≤ n ∧ iv = .int .i64 j ∧ wv.heap[wA.heap.size + 1]? = some (.cells #[.int .u8 t.kind, .bool false, .int .i64 0, .float .f64 0, .string ⟨#[]⟩, .string ⟨#[]⟩, .slice none 0 0, .slice (some ⟨wA.heap.size + 2, 0, none⟩) n n, .slice none 0 0, .slice av1 av2 av3] 46 (0, 0)) ∧ RowI (fun w l h i c => VT rl.length (strOfNums rl) keep N l h w (c.take 10) (aft rl.length cur' (2 * i)) ∧ VT rl.length (strOfNums rl) keep N l h w (c.drop 10) (aft rl.length cur' (2 * i + 1))) 64 (wA.heap.size + 2) 20 n j wv ∧ Inv toks gT pb rawV rl keep wv (aft rl.length cur' (2 * j)) ∧ wA.grownBy wv (some pb)) (fun iv _ => n - (intOf iv).toNat)
                        case atStart => exact ⟨0, Nat.zero_le _, rfl, HB8.out, HRO.out, by rw [aft_zero]; exact HI8.out, HG8.out⟩
                        case round =>
                          clear HB8 HRO HI8 HG8 hc6
                          obtain ⟨j, hj, rfl, hb8, hrow, hi8, hg8⟩ := hrel
                          by_cases hlt : j < n
                          · have HSE : Hid (ext rl.length (aft rl.length cur' (2 * j)) 2 = some (aft rl.length cur' (2 * (j + 1)))) := ext_step2 HXs.out (k := 2 * j) (by omega)
                            have HS1 := hide (aft_eq (ext_step HXs.out (k := 2 * j) (by omega)))
                            have hla := aft_len HXs.out (k := 2 * j) (by omega)
                            have HPT := hide (ext_part HXs.out (k := 2 * j) (by omega)).1
                            have hc6 : wr.cell? ⟨wA.heap.size + 1, 7, none⟩ = some (.slice (some ⟨wA.heap.size + 2, 0, none⟩) n n) := by rw [blk_cell hb8]; rfl
                            have hjn : (j : Int) < n := by omega
                            have HB8 := hide hb8
                            have HRO := hide hrow
                            have HI8 := hide (hi8.same (w' := wr.drew) (fun _ _ => rfl) (Nat.le_refl _))
                            have HG8 := hide hg8
                            clear hb8 hrow hi8 hg8
                            go_upto_block 8 with fail
                            go_cut [10, 137] from 137 to 146 (fun s10 s137 wv => s137 = .int .i64 j ∧ wv.heap[wA.heap.size + 1]? = some (.cells #[.int .u8 t.kind, .bool false, .int .i64 0, .float .f64 0, .string ⟨#[]⟩, .string ⟨#[]⟩, .slice none 0 0, .slice (some ⟨wA.heap.size + 2, 0, none⟩) n n, .slice none 0 0, .slice av1 av2 av3] 46 (0, 0)) ∧ RowI (fun w l h i c => VT rl.length (strOfNums rl) keep N l h w (c.take 10) (aft rl.length cur' (2 * i)) ∧ VT rl.length (strOfNums rl) keep N l h w (c.drop 10) (aft rl.length cur' (2 * i + 1))) 64 (wA.heap.size + 2) 20 n (j + 1) wv ∧ Inv toks gT pb rawV rl keep wv (aft rl.length cur' (2 * (j + 1))) ∧ wA.grownBy wv (some pb))
                            case first =>
                              go_wp2_with fail
                              refine wp_region_any (by kernel_rfl) ?_
                              change wpAny _ _ _ _ _ _ _ (World.drew _)
                              refine wpAny_take (i := 0) (v := .pointer (some ⟨wA.heap.size + 1, 7, none⟩)) rfl (by kernel_rfl) (by kernel_rfl) (by kernel_rfl) (fun _ _ _ h => h) (Or.inl ⟨by rfl, by intro w; go_simp⟩) ?_
                              refine wpAny_take (i := 2) (v := .int .i64 j) rfl (by kernel_rfl) (by kernel_rfl) (by kernel_rfl) (fun _ _ _ h => h) (Or.inl ⟨by rfl, by intro w; go_simp⟩) ?_
                              refine wpAny_take (i := 3) (v := .pointer (some ⟨pb, 0, none⟩)) rfl (by kernel_rfl) (by kernel_rfl) (by kernel_rfl) (fun _ _ _ h => h) (Or.inl ⟨by rfl, by intro w; go_simp⟩) ?_
                              refine wpAny_ready (rs := [1, 4]) (by kernel_rfl) (by simp) ?_
                              refine AllReady.cons rfl (fun K hK => ?_) (AllReady.cons rfl (fun K hK => ?_) AllReady.nil)
                              · go_simp
                                refine hK _ _ ?_
                                clear hK K
                                refine wpAny_ready (rs := [4]) (by kernel_rfl) (by simp) ?_
                                refine AllReady.cons rfl (fun K hK => ?_) AllReady.nil
                                go_simp
                                go_wp2_with (go_at_call 40; refine (entry_any HV.out (aft rl.length cur' (2 * j)) (aft rl.length cur' (2 * (j + 1))) _ (by simp at hcl; omega) (HSU.out.tail.ext HPT.out) HSE.out HI8.out).mono ?_; rintro e w5 ⟨cs, rfl, hlen, hv5, hv6, hi5, hg5⟩; rw [HS1.out] at hv6; have HON := hide (entry_one hv5 hv6); have HV5 := hide (And.intro hv5 hv6); have HI5 := hide hi5; have HG5 := hide hg5; clear hv5 hv6 hi5 hg5)
                                have hgl := HG8.out.size
                                have hg5 : wr.grownBy w5 (some pb) := ⟨HG5.out.os, HG5.out.tape, HG5.out.output, HG5.out.size, HG5.out.block⟩
                                have hgr := blk_lt HB8.out
                                have hb5 := (hg5.block _ hgr (by simp; omega)).trans HB8.out
                                have hc65 : w5.cell? ⟨wA.heap.size + 1, 7, none⟩ = some (.slice (some ⟨wA.heap.size + 2, 0, none⟩) n n) := by rw [blk_cell hb5]; rfl
                                have HTH : Hid (w5.there (wA.heap.size + 2) (j * 20) cs.length) := by rw [hlen]; exact HRO.out.there hlt (by omega) hg5
                                have HE : Hid ((w5.setCells (wA.heap.size + 2) (j * 20) cs).heap[wA.heap.size + 1]? = some (.cells #[.int .u8 t.kind, .bool false, .int .i64 0, .float .f64 0, .string ⟨#[]⟩, .string ⟨#[]⟩, .slice none 0 0, .slice (some ⟨wA.heap.size + 2, 0, none⟩) n n, .slice none 0 0, .slice av1 av2 av3] 46 (0, 0)) ∧ RowI (fun w l h i c => VT rl.length (strOfNums rl) keep N l h w (c.take 10) (aft rl.length cur' (2 * i)) ∧ VT rl.length (strOfNums rl) keep N l h w (c.drop 10) (aft rl.length cur' (2 * i + 1))) 64 (wA.heap.size + 2) 20 n (j + 1) (w5.setCells (wA.heap.size + 2) (j * 20) cs) ∧ Inv toks gT pb rawV rl keep (w5.setCells (wA.heap.size + 2) (j * 20) cs) (aft rl.length cur' (2 * (j + 1))) ∧ wA.grownBy (w5.setCells (wA.heap.size + 2) (j * 20) cs) (some pb)) :=
                                  ⟨by rw [heap_setCells_other _ _ _ _ _ (by omega)]; exact hb5, HRO.out.next (heldMap rl keep N cur') hlt (by omega) hg5 hlen HV5.out, HI5.out.other grown_setCells_own ⟨by omega, by have := HIN.out.gt; omega, fun g hg => by have := HIN.out.raw_lt g hg; omega⟩, grown_setCells (grown_trans HG8.out hg5) (by omega)⟩
                                have HLE := hide hlen
                                clear hg5 hb5 hlen
                                refine wpAny_ready (rs := [5]) (by kernel_rfl) (by simp) ?_
                                refine AllReady.cons rfl (fun K hK => ?_) AllReady.nil
                                go_simp
                                refine hK _ _ ?_
                                clear hK K
                                refine wpAny_ready (rs := [6]) (by kernel_rfl) (by simp) ?_
                                refine AllReady.cons rfl (fun K hK => step_store rfl 64 (.tmp 145) (.tmp 144) rfl (wA.heap.size + 2) (j * 20) cs (by rfl) (by rfl) HTH.out (by rw [HLE.out]; kernel_rfl) HON.out (hK _ _ ?_)) AllReady.nil
                                clear hK K
                                refine wpAny_done (by kernel_rfl) ?_ _
                                go_wp2_with fail
                                go_meet
                                case rel => exact ⟨rfl, HE.out⟩
                              · go_simp
                                go_wp2_with (go_at_call 40; refine (entry_any HV.out (aft rl.length cur' (2 * j)) (aft rl.length cur' (2 * (j + 1))) _ (by simp at hcl; omega) (HSU.out.tail.ext HPT.out) HSE.out HI8.out).mono ?_; rintro e w5 ⟨cs, rfl, hlen, hv5, hv6, hi5, hg5⟩; rw [HS1.out] at hv6; have HON := hide (entry_one hv5 hv6); have HV5 := hide (And.intro hv5 hv6); have HI5 := hide hi5; have HG5 := hide hg5; clear hv5 hv6 hi5 hg5)
                                have hgl := HG8.out.size
                                have hg5 : wr.grownBy w5 (some pb) := ⟨HG5.out.os, HG5.out.tape, HG5.out.output, HG5.out.size, HG5.out.block⟩
                                have hgr := blk_lt HB8.out
                                have hb5 := (hg5.block _ hgr (by simp; omega)).trans HB8.out
                                have hc65 : w5.cell? ⟨wA.heap.size + 1, 7, none⟩ = some (.slice (some ⟨wA.heap.size + 2, 0, none⟩) n n) := by rw [blk_cell hb5]; rfl
                                have HTH : Hid (w5.there (wA.heap.size + 2) (j * 20) cs.length) := by rw [hlen]; exact HRO.out.there hlt (by omega) hg5
                                have HE : Hid ((w5.setCells (wA.heap.size + 2) (j * 20) cs).heap[wA.heap.size + 1]? = some (.cells #[.int .u8 t.kind, .bool false, .int .i64 0, .float .f64 0, .string ⟨#[]⟩, .string ⟨#[]⟩, .slice none 0 0, .slice (some ⟨wA.heap.size + 2, 0, none⟩) n n, .slice none 0 0, .slice av1 av2 av3] 46 (0, 0)) ∧ RowI (fun w l h i c => VT rl.length (strOfNums rl) keep N l h w (c.take 10) (aft rl.length cur' (2 * i)) ∧ VT rl.length (strOfNums rl) keep N l h w (c.drop 10) (aft rl.length cur' (2 * i + 1))) 64 (wA.heap.size + 2) 20 n (j + 1) (w5.setCells (wA.heap.size + 2) (j * 20) cs) ∧ Inv toks gT pb rawV rl keep (w5.setCells (wA.heap.size + 2) (j * 20) cs) (aft rl.length cur' (2 * (j + 1))) ∧ wA.grownBy (w5.setCells (wA.heap.size + 2) (j * 20) cs) (some pb)) :=
                                  ⟨by rw [heap_setCells_other _ _ _ _ _ (by omega)]; exact hb5, HRO.out.next (heldMap rl keep N cur') hlt (by omega) hg5 hlen HV5.out, HI5.out.other grown_setCells_own ⟨by omega, by have := HIN.out.gt; omega, fun g hg => by have := HIN.out.raw_lt g hg; omega⟩, grown_setCells (grown_trans HG8.out hg5) (by omega)⟩
                                have HLE := hide hlen
                                clear hg5 hb5 hlen
                                refine wpAny_ready (rs := [1]) (by kernel_rfl) (by simp) ?_
                                refine AllReady.cons rfl (fun K hK => ?_) AllReady.nil
                                go_simp
                                refine hK _ _ ?_
                                clear hK K
                                refine wpAny_ready (rs := [5]) (by kernel_rfl) (by simp) ?_
                                refine AllReady.cons rfl (fun K hK => ?_) AllReady.nil
                                go_simp
                                refine hK _ _ ?_
                                clear hK K
                                refine wpAny_ready (rs := [6]) (by kernel_rfl) (by simp) ?_
                                refine AllReady.cons rfl (fun K hK => step_store rfl 64 (.tmp 145) (.tmp 144) rfl (wA.heap.size + 2) (j * 20) cs (by rfl) (by rfl) HTH.out (by rw [HLE.out]; kernel_rfl) HON.out (hK _ _ ?_)) AllReady.nil
                                clear hK K
                                refine wpAny_done (by kernel_rfl) ?_ _
                                go_wp2_with fail
                                go_meet
                                case rel => exact ⟨rfl, HE.out⟩
                            case rest =>
                              obtain ⟨rfl, hb9, hrow9, hi9, hg9⟩ := hcut
                              have HX9 := hide (And.intro hb9 (And.intro hrow9 (And.intro hi9 hg9)))
                              clear hb9 hrow9 hi9 hg9 hc6
                              go_wp2_with fail
                              exact ⟨⟨j + 1, by omega, by go_num, HX9.out⟩, by simp [intOf]; omega⟩
                          · have hjn : j = n := by omega
                            subst hjn
                            have HDone := hide (done_map h14 hcn (by omega) HXs.out hb8 hrow hi8 hg8)
                            clear hb8 hrow hi8 hg8
                            go_wp2_with fail
                            go_meet
                            case rel => exact HDone.out
                -- END KM
                by_cases hsq : isSeq t.kind = true
                -- BEGIN KS
                · obtain ⟨wA, hwA⟩ : ∃ x : World, x = wr := ⟨_, rfl⟩
                  subst hwA
                  have hct : 0 ≤ t.count := HOK.out.2.2.1 hsq
                  obtain ⟨n, hcn⟩ : ∃ n : Nat, t.count = n := ⟨t.count.toNat, by omega⟩
                  have HXs : Hid (ext rl.length cur' n = some r) := by
                    have := HXk.out
                    rw [show kids t = n by simp [kids, hsq, hcn]] at this
                    exact this
                  have hnl := ext_len _ _ _ HXs.out
                  have hf6 := blk_frozen HB7.out 6
                  have hc6 : wc.cell? ⟨wA.heap.size + 1, 6, none⟩ = some (.slice none 0 0) := by rw [blk_cell HB7.out 6]; rfl
                  have hkx : t.kind = 5 ∨ t.kind = 15 ∨ t.kind = 16 := by unfold isSeq at hsq; simp at hsq; omega
                  have hle1 := HSU.out.le
                  rw [List.length_cons] at hle1
                  rw [hcn] at c2
                  have HSQ := hide hsq
                  clear hsq
                  rcases hkx with hk | hk | hk
                  all_goals
                    as_aux_lemma =>
                      rw [hk]
                      go_upto_region 33 with fail
                      go_cut [] from 8 (fun wd => wd.heap[wA.heap.size + 1]? = some (.cells #[.int .u8 t.kind, .bool false, .int .i64 0, .float .f64 0, .string ⟨#[]⟩, .string ⟨#[]⟩, .slice (some ⟨wA.heap.size + 2, 0, none⟩) n n, .slice none 0 0, .slice none 0 0, .slice av1 av2 av3] 46 (0, 0)) ∧ RowI (fun w l h i c => VT rl.length (strOfNums rl) keep N l h w c (aft rl.length cur' i)) 46 (wA.heap.size + 2) 10 n 0 wd ∧ Inv toks gT pb rawV rl keep wd cur' ∧ wA.grownBy wd (some pb))
                      case first =>
                        go_wp2_with (refine wpl_make rfl 42 46 (.tmp 111) rfl _ 10 152 Try.underlying42 info46 n (by rfl) (by omega) (by omega) ?_)
                        intro M hM
                        have HRel : Hid (((wc.setCell ⟨wA.heap.size + 1, 6, none⟩ (.slice (some ⟨wA.heap.size + 2, 0, none⟩) n n)).alloc (.cells M 46)).heap[wA.heap.size + 1]? = some (.cells #[.int .u8 t.kind, .bool false, .int .i64 0, .float .f64 0, .string ⟨#[]⟩, .string ⟨#[]⟩, .slice (some ⟨wA.heap.size + 2, 0, none⟩) n n, .slice none 0 0, .slice none 0 0, .slice av1 av2 av3] 46 (0, 0)) ∧ RowI (fun w l h i c => VT rl.length (strOfNums rl) keep N l h w c (aft rl.length cur' i)) 46 (wA.heap.size + 2) 10 n 0 ((wc.setCell ⟨wA.heap.size + 1, 6, none⟩ (.slice (some ⟨wA.heap.size + 2, 0, none⟩) n n)).alloc (.cells M 46)) ∧ Inv toks gT pb rawV rl keep ((wc.setCell ⟨wA.heap.size + 1, 6, none⟩ (.slice (some ⟨wA.heap.size + 2, 0, none⟩) n n)).alloc (.cells M 46)) cur' ∧ wA.grownBy ((wc.setCell ⟨wA.heap.size + 1, 6, none⟩ (.slice (some ⟨wA.heap.size + 2, 0, none⟩) n n)).alloc (.cells M 46)) (some pb)) := by
                          have hs5 : (wc.setCell ⟨wA.heap.size + 1, 6, none⟩ (.slice (some ⟨wA.heap.size + 2, 0, none⟩) n n)).heap.size = wA.heap.size + 2 := by rw [Go.Deep.nblk_setCell, hsz3]
                          refine ⟨?_, ⟨M, ?_, hM, fun i hi => absurd hi (Nat.not_lt_zero _)⟩, (HI3.out.other grown_setCell_own ⟨by omega, by have := HIN.out.gt; omega, fun g hg => by have := HIN.out.raw_lt g hg; omega⟩).alloc _, grown_trans (grown_setCell HG3.out (by omega)) (World.grownBy_alloc _ _ _)⟩
                          · rw [Go.Deep.blk_alloc_lt _ _ _ (by rw [hs5]; omega), blk_set HB7.out 6]
                            rfl
                          · have := Go.Deep.blk_alloc_new (wc.setCell ⟨wA.heap.size + 1, 6, none⟩ (.slice (some ⟨wA.heap.size + 2, 0, none⟩) n n)) (.cells M 46)
                            rw [hs5] at this
                            exact this
                        go_wp2_with fail
                        go_meet
                        case rel => exact HRel.out
                      case rest =>
                        clear c0 c2 c3 c4 c5 c6 c7 hf6 hc6 HB7 HI3 HG3 hsz3
                        obtain ⟨hb8, hrow, hi8, hg8⟩ := hcut
                        have hc6 : wc.cell? ⟨wA.heap.size + 1, 6, none⟩ = some (.slice (some ⟨wA.heap.size + 2, 0, none⟩) n n) := by rw [blk_cell hb8]; rfl
                        have HB8 := hide hb8
                        have HRO := hide hrow
                        have HI8 := hide hi8
                        have HG8 := hide hg8
                        clear hb8 hrow hi8 hg8
                        go_wp2_with fail
                        go_loopw [117] (fun iv wv => ∃ j : Nat, j ≤ n ∧ iv = .int .i64 j ∧ wv.heap[wA.heap.size + 1]? = some (.cells #[.int .u8 t.kind, .bool false, .int .i64 0, .float .f64 0, .string ⟨#[]⟩, .string ⟨#[]⟩, .slice (some ⟨wA.heap.size + 2, 0, none⟩) n n, .slice none 0 0, .slice none 0 0, .slice av1 av2 av3] 46 (0, 0)) ∧ RowI (fun w l h i c => VT rl.length (strOfNums rl) keep N l h w c (aft rl.length cur' i)) 46 (wA.heap.size + 2) 10 n j wv ∧ Inv toks gT pb rawV rl keep wv (aft rl.length cur' j) ∧ wA.grownBy wv (some pb)) (fun iv _ => n - (intOf iv).toNat)
                        case atStart => exact ⟨0, Nat.zero_le _, rfl, HB8.out, HRO.out, by rw [aft_zero]; exact HI8.out, HG8.out⟩
                        case round =>
                          clear HB8 HRO HI8 HG8 hc6
                          obtain ⟨j, hj, rfl, hb8, hrow, hi8, hg8⟩ := hrel
                          by_cases hlt : j < n
                          · have HSE := hide (ext_step HXs.out hlt)
                            have hla := aft_len HXs.out (k := j) (by omega)
                            have HPT := hide (ext_part HXs.out (k := j) (by omega)).1
                            have hc6 : wr.cell? ⟨wA.heap.size + 1, 6, none⟩ = some (.slice (some ⟨wA.heap.size + 2, 0, none⟩) n n) := by rw [blk_cell hb8]; rfl
                            have hjn : (j : Int) < n := by omega
                            have HB8 := hide hb8
                            have HRO := hide hrow
                            have HI8 := hide (hi8.same (w' := wr.drew) (fun _ _ => rfl) (Nat.le_refl _))
                            have HG8 := hide hg8
                            clear hb8 hrow hi8 hg8
                            go_upto_block 6 with fail
                            go_cut [9, 117] from 117 to 126 (fun s9 s117 wv => s117 = .int .i64 j ∧ wv.heap[wA.heap.size + 1]? = some (.cells #[.int .u8 t.kind, .bool false, .int .i64 0, .float .f64 0, .string ⟨#[]⟩, .string ⟨#[]⟩, .slice (some ⟨wA.heap.size + 2, 0, none⟩) n n, .slice none 0 0, .slice none 0 0, .slice av1 av2 av3] 46 (0, 0)) ∧ RowI (fun w l h i c => VT rl.length (strOfNums rl) keep N l h w c (aft rl.length cur' i)) 46 (wA.heap.size + 2) 10 n (j + 1) wv ∧ Inv toks gT pb rawV rl keep wv (aft rl.length cur' (j + 1)) ∧ wA.grownBy wv (some pb))
                            case first =>
                              go_wp2_with fail
                              refine wp_region_any (by kernel_rfl) ?_
                              change wpAny _ _ _ _ _ _ _ (World.drew _)
                              refine wpAny_take (i := 0) (v := .pointer (some ⟨wA.heap.size + 1, 6, none⟩)) rfl (by kernel_rfl) (by kernel_rfl) (by kernel_rfl) (fun _ _ _ h => h) (Or.inl ⟨by rfl, by intro w; go_simp⟩) ?_
                              refine wpAny_take (i := 2) (v := .int .i64 j) rfl (by kernel_rfl) (by kernel_rfl) (by kernel_rfl) (fun _ _ _ h => h) (Or.inl ⟨by rfl, by intro w; go_simp⟩) ?_
                              refine wpAny_take (i := 3) (v := .pointer (some ⟨pb, 0, none⟩)) rfl (by kernel_rfl) (by kernel_rfl) (by kernel_rfl) (fun _ _ _ h => h) (Or.inl ⟨by rfl, by intro w; go_simp⟩) ?_
                              refine wpAny_ready (rs := [1, 4]) (by kernel_rfl) (by simp) ?_
                              refine AllReady.cons rfl (fun K hK => ?_) (AllReady.cons rfl (fun K hK => ?_) AllReady.nil)
                              · go_simp
                                refine hK _ _ ?_
                                clear hK K
                                refine wpAny_ready (rs := [4]) (by kernel_rfl) (by simp) ?_
                                refine AllReady.cons rfl (fun K hK => ?_) AllReady.nil
                                go_simp
                                go_wp2_with (go_at_call 39; refine (HV.out (aft rl.length cur' j) (aft rl.length cur' (j + 1)) _ (by simp at hcl; omega) (HSU.out.tail.ext HPT.out) HSE.out HI8.out).mono ?_; rintro e w5 ⟨cs, rfl, hv5, hi5, hg5⟩; have HV5 := hide hv5; have HI5 := hide hi5; have HG5 := hide hg5; clear hv5 hi5 hg5)
                                have hgl := HG8.out.size
                                have hg5 : wr.grownBy w5 (some pb) := ⟨HG5.out.os, HG5.out.tape, HG5.out.output, HG5.out.size, HG5.out.block⟩
                                have hgr := blk_lt HB8.out
                                have hb5 := (hg5.block _ hgr (by simp; omega)).trans HB8.out
                                have hc65 : w5.cell? ⟨wA.heap.size + 1, 6, none⟩ = some (.slice (some ⟨wA.heap.size + 2, 0, none⟩) n n) := by rw [blk_cell hb5]; rfl
                                have hlen := HV5.out.ten
                                have HTH : Hid (w5.there (wA.heap.size + 2) (j * 10) cs.length) := by rw [hlen]; exact HRO.out.there hlt (by omega) hg5
                                have HE : Hid ((w5.setCells (wA.heap.size + 2) (j * 10) cs).heap[wA.heap.size + 1]? = some (.cells #[.int .u8 t.kind, .bool false, .int .i64 0, .float .f64 0, .string ⟨#[]⟩, .string ⟨#[]⟩, .slice (some ⟨wA.heap.size + 2, 0, none⟩) n n, .slice none 0 0, .slice none 0 0, .slice av1 av2 av3] 46 (0, 0)) ∧ RowI (fun w l h i c => VT rl.length (strOfNums rl) keep N l h w c (aft rl.length cur' i)) 46 (wA.heap.size + 2) 10 n (j + 1) (w5.setCells (wA.heap.size + 2) (j * 10) cs) ∧ Inv toks gT pb rawV rl keep (w5.setCells (wA.heap.size + 2) (j * 10) cs) (aft rl.length cur' (j + 1)) ∧ wA.grownBy (w5.setCells (wA.heap.size + 2) (j * 10) cs) (some pb)) :=
                                  ⟨by rw [heap_setCells_other _ _ _ _ _ (by omega)]; exact hb5, HRO.out.next (heldSeq rl keep N cur') hlt (by omega) hg5 hlen HV5.out, HI5.out.other grown_setCells_own ⟨by omega, by have := HIN.out.gt; omega, fun g hg => by have := HIN.out.raw_lt g hg; omega⟩, grown_setCells (grown_trans HG8.out hg5) (by omega)⟩
                                have HLE := hide hlen
                                clear hg5 hb5 hlen
                                refine wpAny_ready (rs := [5]) (by kernel_rfl) (by simp) ?_
                                refine AllReady.cons rfl (fun K hK => ?_) AllReady.nil
                                go_simp
                                refine hK _ _ ?_
                                clear hK K
                                refine wpAny_ready (rs := [6]) (by kernel_rfl) (by simp) ?_
                                refine AllReady.cons rfl (fun K hK => step_store rfl 46 (.tmp 125) (.tmp 124) rfl (wA.heap.size + 2) (j * 10) cs (by rfl) (by rfl) HTH.out (by rw [HLE.out]; kernel_rfl) HV5.out.one (hK _ _ ?_)) AllReady.nil
                                clear hK K
                                refine wpAny_done (by kernel_rfl) ?_ _
                                go_wp2_with fail
                                go_meet
                                case rel => exact ⟨rfl, HE.out⟩
                              · go_simp
                                go_wp2_with (go_at_call 39; refine (HV.out (aft rl.length cur' j) (aft rl.length cur' (j + 1)) _ (by simp at hcl; omega) (HSU.out.tail.ext HPT.out) HSE.out HI8.out).mono ?_; rintro e w5 ⟨cs, rfl, hv5, hi5, hg5⟩; have HV5 := hide hv5; have HI5 := hide hi5; have HG5 := hide hg5; clear hv5 hi5 hg5)
                                have hgl := HG8.out.size
                                have hg5 : wr.grownBy w5 (some pb) := ⟨HG5.out.os, HG5.out.tape, HG5.out.output, HG5.out.size, HG5.out.block⟩
                                have hgr := blk_lt HB8.out
                                have hb5 := (hg5.block _ hgr (by simp; omega)).trans HB8.out
                                have hc65 : w5.cell? ⟨wA.heap.size + 1, 6, none⟩ = some (.slice (some ⟨wA.heap.size + 2, 0, none⟩) n n) := by rw [blk_cell hb5]; rfl
                                have hlen := HV5.out.ten
                                have HTH : Hid (w5.there (wA.heap.size + 2) (j * 10) cs.length) := by rw [hlen]; exact HRO.out.there hlt (by omega) hg5
                                have HE : Hid ((w5.setCells (wA.heap.size + 2) (j * 10) cs).heap[wA.heap.size + 1]? = some (.cells #[.int .u8 t.kind, .bool false, .int .i64 0, .float .f64 0, .string ⟨#[]⟩, .string ⟨#[]⟩, .slice (some ⟨wA.heap.size + 2, 0, none⟩) n n, .slice none 0 0, .slice none 0 0, .slice av1 av2 av3] 46 (0, 0)) ∧ RowI (fun w l h i c => VT rl.length (strOfNums rl) keep N l h w c (aft rl.length cur' i)) 46 (wA.heap.size + 2) 10 n (j + 1) (w5.setCells (wA.heap.size + 2) (j * 10) cs) ∧ Inv toks gT pb rawV rl keep (w5.setCells (wA.heap.size + 2) (j * 10) cs) (aft rl.length cur' (j + 1)) ∧ wA.grownBy (w5.setCells (wA.heap.size + 2) (j * 10) cs) (some pb)) :=
                                  ⟨by rw [heap_setCells_other _ _ _ _ _ (by omega)]; exact hb5, HRO.out.next (heldSeq rl keep N cur') hlt (by omega) hg5 hlen HV5.out, HI5.out.other grown_setCells_own ⟨by omega, by have := HIN.out.gt; omega, fun g hg => by have := HIN.out.raw_lt g hg; omega⟩, grown_setCells (grown_trans HG8.out hg5) (by omega)⟩
                                have HLE := hide hlen
                                clear hg5 hb5 hlen
                                refine wpAny_ready (rs := [1]) (by kernel_rfl) (by simp) ?_
                                refine AllReady.cons rfl (fun K hK => ?_) AllReady.nil
                                go_simp
                                refine hK _ _ ?_
                                clear hK K
                                refine wpAny_ready (rs := [5]) (by kernel_rfl) (by simp) ?_
                                refine AllReady.cons rfl (fun K hK => ?_) AllReady.nil
                                go_simp
                                refine hK _ _ ?_
                                clear hK K
                                refine wpAny_ready (rs := [6]) (by kernel_rfl) (by simp) ?_
                                refine AllReady.cons rfl (fun K hK => step_store rfl 46 (.tmp 125) (.tmp 124) rfl (wA.heap.size + 2) (j * 10) cs (by rfl) (by rfl) HTH.out (by rw [HLE.out]; kernel_rfl) HV5.out.one (hK _ _ ?_)) AllReady.nil
                                clear hK K
                                refine wpAny_done (by kernel_rfl) ?_ _
                                go_wp2_with fail
                                go_meet
                                case rel => exact ⟨rfl, HE.out⟩
                            case rest =>
                              obtain ⟨rfl, hb9, hrow9, hi9, hg9⟩ := hcut
                              have HX9 := hide (And.intro hb9 (And.intro hrow9 (And.intro hi9 hg9)))
                              clear hb9 hrow9 hi9 hg9 hc6
                              go_wp2_with fail
                              exact ⟨⟨j + 1, by omega, by go_num, HX9.out⟩, by simp [intOf]; omega⟩
                          · have hjn : j = n := by omega
                            subst hjn
                            have HDone := hide (done_seq HSQ.out hcn (by omega) HXs.out hb8 hrow hi8 hg8)
                            clear hb8 hrow hi8 hg8
                            go_wp2_with fail
                            go_meet
                            case rel => exact HDone.out
                -- END KS
                have hns : isSeq t.kind = false := by simpa using hsq
                have hne2 : t.kind ≠ 5 ∧ t.kind ≠ 15 ∧ t.kind ≠ 16 := by unfold isSeq at hns; simp at hns; omega
                -- BEGIN KO
                have HRel : Hid (Done toks gT pb rawV rl keep N wr wc t cur' r (.slice av1 av2 av3)) := by
                  refine done_plain hns (by omega) HXk.out ?_ HI3.out HG3.out
                  rw [HB7.out]
                  have hnt := HNT.out
                  simp only [vBool, vInt, vFloat, vStr, vFmt, h13, hk3, hk10, hk9, hnt, if_false, Bool.false_eq_true]
                  rfl
                clear hns hsq
                go_wp2_with fail
                go_meet
                case rel => exact HRel.out
                -- END KO
            case rest =>
              -- BEGIN FIN
              as_aux_lemma =>
                obtain ⟨iv, ev, hb, hi9, hg9, hsq, hmp⟩ := hcut
                clear HB7 HI3 HG3 hsz3 c0 c2 c3 c4 c5 c6 c7
                have hw1 := HGR.out.size
                rw [Go.Deep.nblk_alloc] at hw1
                have hz : wc.heap[w.heap.size]? = some (.cells zeroV.toArray 46 (0, 0)) := by
                  rw [hg9.block _ (by omega) (by simp; omega), HGR.out.block _ (by simp) (by simp; omega)]
                  exact Go.Deep.blk_alloc_new _ _
                have hL : es = (atl rl.length ts.length ts).1 ∧ (atl rl.length ts.length ts).2 = t :: cur' := by
                  have := HL.out
                  rw [atl_main HAT.out] at this
                  exact ⟨by rw [← this.1]; simp, this.2.symm⟩
                have hvt := fun wF hF => finish (wF := wF) hpb (by omega) HAV.out hL HAT.out HOK.out hsq hmp hg9 hF
                have hs1 : ∃ a l c, iv = .slice a l c := by
                  cases hs : isSeq t.kind with
                  | true => obtain ⟨g, cap, e, _⟩ := hsq.1 hs; exact ⟨_, _, _, e⟩
                  | false => exact ⟨_, _, _, hsq.2 hs⟩
                have hs2 : ∃ a l c, ev = .slice a l c := by
                  by_cases hs : t.kind = 14
                  · obtain ⟨g, cap, e, _⟩ := hmp.1 hs; exact ⟨_, _, _, e⟩
                  · exact ⟨_, _, _, hmp.2 hs⟩
                have hone : ([.int .u8 t.kind, .bool (vBool t), .int .i64 (vInt t), .float .f64 (vFloat t), .string (vStr (strOfNums rl) t), .string (vFmt (strOfNums rl) t), iv, ev, .slice none 0 0, .slice av1 av2 av3] : List Value).all (·.oneCell') = true := by
                  obtain ⟨_, _, _, rfl⟩ := hs1
                  obtain ⟨_, _, _, rfl⟩ := hs2
                  rfl
                have hrg : wc.rangeAt (wr.heap.size + 1) 0 [.int .u8 t.kind, .bool (vBool t), .int .i64 (vInt t), .float .f64 (vFloat t), .string (vStr (strOfNums rl) t), .string (vFmt (strOfNums rl) t), iv, ev, .slice none 0 0, .slice av1 av2 av3] := fun j v hv => by
                  rw [Nat.zero_add, blk_cell hb j]
                  simpa using hv
                have hlen : ([.int .u8 t.kind, .bool (vBool t), .int .i64 (vInt t), .float .f64 (vFloat t), .string (vStr (strOfNums rl) t), .string (vFmt (strOfNums rl) t), iv, ev, .slice none 0 0, .slice av1 av2 av3] : List Value).length = 10 := rfl
                have hth : wc.there w.heap.size 0 10 := fun j hj => by
                  rw [Nat.zero_add, blk_cell hz j, blk_frozen hz j]
                  exact ⟨by simp [zeroV]; omega, rfl⟩
                generalize ([.int .u8 t.kind, .bool (vBool t), .int .i64 (vInt t), .float .f64 (vFloat t), .string (vStr (strOfNums rl) t), .string (vFmt (strOfNums rl) t), iv, ev, .slice none 0 0, .slice av1 av2 av3] : List Value) = ten at hvt hone hrg hlen
                have hres := blk_setAll (vs := ten) hz (by rw [hlen]; rfl)
                have HVT := hide hvt
                have HON := hide hone
                have HRG := hide hrg
                have HLE := hide hlen
                have HTH := hide hth
                have HI9 := hide hi9
                have HG9 := hide hg9
                have HRES := hide hres
                clear hb hi9 hg9 hsq hmp hz hL hvt hs1 hs2 hone hrg hlen hth hres
                go_wp2_with (first | (refine wpList_load_mid rfl 46 (.tmp 7) rfl (wr.heap.size + 1) 0 (by rfl) ten _ (by exact HRG.out) Try.underlying46 (by rfl) (by rw [HLE.out]; kernel_rfl) ?_) | (refine wpl_store rfl 46 (.tmp 2) (.tmp 147) rfl w.heap.size 0 ten (by rfl) (by rfl) (by rw [HLE.out]; exact HTH.out) (by rw [HLE.out]; kernel_rfl) HON.out ?_))
                refine bodyPost_ret (results_cell_row rfl _ _ w.heap.size 46 _ _ _ ?_ HRES.out Try.underlying46 rfl ?_) rfl ?_
                · rfl
                · rw [show ten.toArray.size = 10 by simpa using HLE.out]; kernel_rfl
                refine ⟨_, rfl, HVT.out _ grown_setCells_own, HI9.out.other grown_setCells_own ⟨hpb, ?_, ?_⟩, ?_⟩
                · exact HLW.out.1
                · exact HLW.out.2
                · exact grown_setCells (grown_trans (grown_trans (World.grownBy_alloc w _ (some pb)) HGR.out) HG9.out) (Nat.le_refl _)
              -- END FIN
    · as_aux_lemma =>
        rw [hat] at d2
        obtain ⟨q, hqq⟩ : ∃ q, q = t.count.tdiv 2 := ⟨_, rfl⟩
        have hqr := half_range wc
        rw [← hqq] at hqr
        have HQ : Hid (half t = q) := hqq.symm
        have hq : t.count.tdiv 2 = q := hqq.symm
        have HX1 : Hid (ext rl.length cur' (1 + 2 * q.toNat) = some r) := by
          have := HX.out
          rw [ext_attr (by omega) hat, HQ.out] at this
          exact this
        have hcl1 : cur'.length ≠ 0 := by have := ext_len _ _ _ HX1.out; omega
        have hle1 := hsu.le
        have e8 : (toks.length - (cur'.length + 1)) * 8 + 8 = (toks.length - cur'.length) * 8 := by simp at hle1; omega
        have hst := hinv.step hsu
        rw [tsv_pos hcl1, ← e8] at hst
        have HSt := hide hst
        have HGs := hide (grown_trans hgr (grown_setCell_own (w := wr) (b := pb) (i := 0) (v := .slice (some ⟨gT, (toks.length - (cur'.length + 1)) * 8 + 8, none⟩) cur'.length cur'.length)))
        have HAv1 := hide (hav.grown (grown_setCell_own (w := wr) (b := pb) (i := 0) (v := .slice (some ⟨gT, (toks.length - (cur'.length + 1)) * 8 + 8, none⟩) cur'.length cur'.length)) (by omega))
        have HSU := hide hsu.tail
        have HAT := hide hat
        have hkk : (q.toNat : Int) = q ∨ q < 0 := by omega
        have hq1 : 2 * q.toNat + 1 ≤ cur'.length := by have := ext_len _ _ _ HX1.out; omega
        clear hqq hst hinv hav hgr hsu hat HX e8
        go_wp2_with fail
        clear d0 d1 d2 d3 d4 d5 d6 d7 d8
        go_loopw [3, 35] (fun av jv wv => ∃ j : Nat, j ≤ q.toNat ∧ jv = .int .i64 j ∧ Inv toks gT pb rawV rl keep wv (aft rl.length cur' (2 * j)) ∧ AV rl.length (strOfNums rl) keep N (w.heap.size + 1) wv av (es ++ (List.range j).map (fun i => aft rl.length cur' (2 * i))) ∧ (w.alloc (.cells zeroV.toArray 46)).grownBy wv (some pb)) (fun _ jv _ => q.toNat - (intOf jv).toNat)
        case atStart => exact ⟨0, Nat.zero_le _, rfl, by rw [aft_zero]; exact HSt.out, by simpa using HAv1.out, HGs.out⟩
        case round =>
          clear HSt HAv1 HGs
          obtain ⟨j, hj, rfl, hinv, hav, hgr⟩ := hrel
          by_cases hlt : j < q.toNat
          · have hp := ext_part HX1.out (k := 2 * j) (by omega)
            have hp2 := ext_step2 HX1.out (k := 2 * j) (by omega)
            have hla := aft_len HX1.out (k := 2 * j) (by omega)
            have HAV := hide hav
            have HGR := hide hgr
            have hsz := hgr.size
            have hpj : (j : Int) < q := by omega
            go_wp2_with fail
            refine (entry_any HV.out _ _ wr (by simp at hcl; omega) (HSU.out.ext hp.1) hp2 hinv).mono ?_
            rintro e w2 ⟨c, rfl, hc20, hv1, hv2, hinv2, hg2⟩
            have hone := entry_one hv1 hv2
            have hfr : Fresh w2 ((w2.alloc (.cells #[.int .u8 0, .bool false, .int .i64 0, .float .f64 0, .string ⟨#[]⟩, .string ⟨#[]⟩, .slice none 0 0, .slice none 0 0, .slice none 0 0, .slice none 0 0, .int .u8 0, .bool false, .int .i64 0, .float .f64 0, .string ⟨#[]⟩, .string ⟨#[]⟩, .slice none 0 0, .slice none 0 0, .slice none 0 0, .slice none 0 0] 64)).setCells w2.heap.size 0 c) c 64 := fresh_store hc20
            have hth : (w2.alloc (.cells #[.int .u8 0, .bool false, .int .i64 0, .float .f64 0, .string ⟨#[]⟩, .string ⟨#[]⟩, .slice none 0 0, .slice none 0 0, .slice none 0 0, .slice none 0 0, .int .u8 0, .bool false, .int .i64 0, .float .f64 0, .string ⟨#[]⟩, .string ⟨#[]⟩, .slice none 0 0, .slice none 0 0, .slice none 0 0, .slice none 0 0] 64)).there w2.heap.size 0 20 := there_new
            have hi3 := hinv2.same (fun k hk => hfr.grown.block k hk (by simp)) hfr.grown.size
            have hk3 := hi3.kp
            have HI3 := hide hi3
            have HV1 := hide hv1
            have HV2 := hide hv2
            have HG2 := hide hg2
            have HFR := hide hfr
            have HTH := hide hth
            have HON := hide hone
            have HC20 := hide hc20
            have HGA := hide (grown_trans (grown_trans hgr hg2) (grown_weak hfr.grown))
            clear hav hgr hinv hinv2 hv1 hv2 hg2 hc20 hp hp2 hone hfr hth hi3
            rcases hkeep : keep with _ | _
            · rw [hkeep] at hk3
              have HAO : Hid (AV rl.length (strOfNums rl) keep N (w.heap.size + 1) ((w2.alloc (.cells #[.int .u8 0, .bool false, .int .i64 0, .float .f64 0, .string ⟨#[]⟩, .string ⟨#[]⟩, .slice none 0 0, .slice none 0 0, .slice none 0 0, .slice none 0 0, .int .u8 0, .bool false, .int .i64 0, .float .f64 0, .string ⟨#[]⟩, .string ⟨#[]⟩, .slice none 0 0, .slice none 0 0, .slice none 0 0, .slice none 0 0] 64)).setCells w2.heap.size 0 c) u3 (es ++ (List.range (j + 1)).map (fun i => aft rl.length cur' (2 * i)))) := AV.off hkeep (HAV.out.1 hkeep)
              clear HAV hkeep
              go_wp2_with (refine wpl_store rfl 64 (.tmp 5) (.tmp 38) rfl w2.heap.size 0 c (by rfl) (by rfl) (by rw [HC20.out]; exact HTH.out) (by rw [HC20.out]; kernel_rfl) (List.all_eq_true.2 HON.out) ?_)
              exact ⟨⟨j + 1, by omega, by go_num, HI3.out, HAO.out, HGA.out⟩, by simp [intOf]; omega⟩
            · rw [hkeep] at hk3
              have hav3 := ((HAV.out.grown HG2.out (by omega)).newer HFR.out.grown).newer (World.grownBy_alloc ((w2.alloc (.cells #[.int .u8 0, .bool false, .int .i64 0, .float .f64 0, .string ⟨#[]⟩, .string ⟨#[]⟩, .slice none 0 0, .slice none 0 0, .slice none 0 0, .slice none 0 0, .int .u8 0, .bool false, .int .i64 0, .float .f64 0, .string ⟨#[]⟩, .string ⟨#[]⟩, .slice none 0 0, .slice none 0 0, .slice none 0 0, .slice none 0 0] 64)).setCells w2.heap.size 0 c) (.cells c.toArray 64) none)
              obtain ⟨xs, o1, o2⟩ := hav3.2.2 hkeep
              have hesl : (es ++ (List.range j).map (fun i => aft rl.length cur' (2 * i))).length ≤ 100000 := by simp at hcl ⊢; omega
              have hlo3 : w.heap.size + 1 ≤ (((w2.alloc (.cells #[.int .u8 0, .bool false, .int .i64 0, .float .f64 0, .string ⟨#[]⟩, .string ⟨#[]⟩, .slice none 0 0, .slice none 0 0, .slice none 0 0, .slice none 0 0, .int .u8 0, .bool false, .int .i64 0, .float .f64 0, .string ⟨#[]⟩, .string ⟨#[]⟩, .slice none 0 0, .slice none 0 0, .slice none 0 0, .slice none 0 0] 64)).setCells w2.heap.size 0 c).alloc (.cells c.toArray 64)).heap.size := by
                have h1 := HG2.out.size
                have h2 := HFR.out.size
                simp at hsz
                rw [Go.Deep.nblk_alloc]
                omega
              have HAL : Hid (∀ g, u3.ownBlock = some g → g < wr.heap.size) := by
                obtain ⟨_, b1, _⟩ := HAV.out.2.2 hkeep
                exact fun g hg => (b1.lt g hg).2
              have HO1 := hide o1
              have HO2 := hide o2
              have HKP := hide hkeep
              clear o1 o2 hav3 HAV hkeep
              go_wp2_with (first | (at_builtin; refine wpl_attr rfl (.tmp 43) (.tmp 45) rfl (w.heap.size + 1) _ u3 _ xs (by rfl) (by exact HO1.out) _ c (by rfl) (by exact laid_cells c) HC20.out HON.out (by exact hesl) (by exact hlo3) ?_) | (refine wpl_store rfl 64 (.tmp 5) (.tmp 38) rfl w2.heap.size 0 c (by rfl) (by rfl) (by rw [HC20.out]; exact HTH.out) (by rw [HC20.out]; kernel_rfl) (List.all_eq_true.2 HON.out) ?_) | (refine wpList_load_mid rfl 64 (.tmp 5) rfl w2.heap.size 0 (by rfl) c _ (by exact HFR.out.range) Try.underlying64 (by rfl) (by rw [HC20.out]; kernel_rfl) ?_) | (refine wpl_build1 rfl (.tmp 44) rfl c HC20.out (by rfl) ?_))
              intro v' w4 ho' hg4 hv4
              have HW3 := hide (World.grownBy_alloc ((w2.alloc (.cells #[.int .u8 0, .bool false, .int .i64 0, .float .f64 0, .string ⟨#[]⟩, .string ⟨#[]⟩, .slice none 0 0, .slice none 0 0, .slice none 0 0, .slice none 0 0, .int .u8 0, .bool false, .int .i64 0, .float .f64 0, .string ⟨#[]⟩, .string ⟨#[]⟩, .slice none 0 0, .slice none 0 0, .slice none 0 0, .slice none 0 0] 64)).setCells w2.heap.size 0 c) (.cells c.toArray 64) none)
              have hnx := attr_next (s := aft rl.length cur' (2 * j)) HKP.out HLO.out (by simpa using hsz) HO1.out HO2.out HAL.out HC20.out HV1.out HV2.out (grown_trans HFR.out.grown HW3.out) (HI3.out.alloc _) (grown_trans HGA.out (grown_weak HW3.out)) (by simp [zeroV]) (by simpa [Nat.add_assoc] using ho') hg4 (by rw [Go.Deep.nblk_alloc]; exact hv4)
              have HNX := hide hnx
              clear hnx ho' hg4 hv4 HW3 HO1 HO2 HAL HV1 HV2 HFR HGA HI3
              go_wp2_with fail
              refine ⟨⟨j + 1, by omega, by go_num, HNX.out.2.1, ?_, HNX.out.2.2⟩, by simp [intOf]; omega⟩
              rw [List.range_succ, List.map_append, ← List.append_assoc]
              exact HNX.out.1
          · have hjq : j = q.toNat := by omega
            subst hjq
            obtain ⟨f', hf'⟩ : ∃ f', f = f' + 1 := ⟨f - 1, by simp at hcf; omega⟩
            have HR : Hid (∃ (f : Nat) (cur : List Tok) (es' : List (List Tok)), cur.length ≤ f ∧ es'.length + cur.length ≤ ts.length ∧ Hid (es' ++ (atl rl.length f cur).1 = (atl rl.length ts.length ts).1 ∧ (atl rl.length f cur).2 = (atl rl.length ts.length ts).2) ∧ Suf toks cur ∧ Hid (ext rl.length cur 1 = some r) ∧ Inv toks gT pb rawV rl keep wr cur ∧ AV rl.length (strOfNums rl) keep N (w.heap.size + 1) wr u3 es' ∧ (w.alloc (.cells zeroV.toArray 46)).grownBy wr (some pb)) := by
              have hp := ext_part HX1.out (k := 2 * q.toNat) (by omega)
              have hla := aft_len HX1.out (k := 2 * q.toNat) (by omega)
              refine ⟨f', _, _, by simp at hcf; omega, by simp at hcl ⊢; omega, ?_, HSU.out.ext hp.1, ?_, hinv, hav, hgr⟩
              · have h1 := HL.out
                rw [hf', atl_attr HAT.out, HQ.out] at h1
                refine ⟨?_, h1.2⟩
                rw [← h1.1]
                simp
              · show _ = _
                have := hp.2
                rwa [show 1 + 2 * q.toNat - 2 * q.toNat = 1 by omega] at this
            have hm2 := hinv.len
            have hla := aft_len HX1.out (k := 2 * q.toNat) (by omega)
            clear hinv hav hgr HL HX1 HSU hkk
            go_wp2_with fail
            exact ⟨HR.out, by rw [hm2, hml]; simp; omega⟩

theorem value_any {toks : List Tok} {gT pb : Nat} {rawV : Value} {rl : List Int} {keep : Bool} (hwf : ∀ t ∈ toks, TokWf t) (hn : toks.length ≤ 32768) (hrl : rl.length ≤ 1048576) : ∀ N, VC toks gT pb rawV rl keep N := by
  intro N
  induction N with
  | zero =>
    intro ts r w hN hs he hi
    have := ext_len _ _ _ he
    omega
  | succ N ih => exact value_step ih hwf hn hrl

end Go.Proofs.Qxb6601678a.Bv
