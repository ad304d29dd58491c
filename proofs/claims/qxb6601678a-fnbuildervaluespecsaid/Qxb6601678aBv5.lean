/-
  THE ATTRIBUTES THAT ARE GATHERED: the slice, carried from append to append.
-/
import Derived.Test.Qxb6601678aBv4
namespace Go.Proofs.Qxb6601678a.Bv
open Go.RowKit Go.ChangeShapes Go.WideShapes Go.ChangeAt
set_option linter.unusedVariables false
set_option maxRecDepth 100000

theorem info64 : (Try.prog.info? 64).map (fun i => (i.zero, i.size, i.bytes)) = some (some (.agg #[.int .u8 0, .bool false, .int .i64 0, .float .f64 0, .string ⟨#[]⟩, .string ⟨#[]⟩, .slice none 0 0, .slice none 0 0, .slice none 0 0, .slice none 0 0, .int .u8 0, .bool false, .int .i64 0, .float .f64 0, .string ⟨#[]⟩, .string ⟨#[]⟩, .slice none 0 0, .slice none 0 0, .slice none 0 0, .slice none 0 0]), 20, 304) := by kernel_rfl
theorem info46 : (Try.prog.info? 46).map (fun i => (i.zero, i.size, i.bytes)) = some (some (.agg #[.int .u8 0, .bool false, .int .i64 0, .float .f64 0, .string ⟨#[]⟩, .string ⟨#[]⟩, .slice none 0 0, .slice none 0 0, .slice none 0 0, .slice none 0 0]), 10, 152) := by kernel_rfl

theorem owns_mono {w : World} {base base' : Nat} {e : TypeId} {size : Nat} {v : Value} {n : Nat} {xs : List Value} (h : w.ownsRow base e size v n xs) (hb : base' ≤ base) : w.ownsRow base' e size v n xs := by
  obtain ⟨h1, h2⟩ := h
  refine ⟨h1, ?_⟩
  rcases h2 with h2 | ⟨g, cap, cur, a1, a2, a3⟩
  · exact .inl h2
  · exact .inr ⟨g, cap, cur, a1, by omega, a3⟩

/-- 'attrs = append(attrs, e)': the same row, one entry longer; or a row in a new block -/
theorem wpl_attr {ops : Array Oper} {rest : List Oper} {o : Oper} {a : Act} {Q : Exit → Act → World → Prop} (hgd : o.guard = none) (s x : Operand) (ho : o.op = .call { callee := .builtin .append, args := #[s, x], argTypes := #[43, 43] })
    (lo : Nat) (w : World) (av : Value) (n : Nat) (xs : List Value) (hs : a.eval s = av) (hown : w.ownsRow lo 64 20 av n xs) (ad : Addr) (c : List Value) (hx : a.eval x = .slice (some ad) 1 1) (hc : ∀ j u, c[j]? = some u → w.cell? (ad.add j) = some u) (hc20 : c.length = 20) (h1c : ∀ u ∈ c, u.oneCell' = true)
    (hn : n ≤ 100000) (hlo : lo ≤ w.heap.size)
    (h : ∀ v' w', w'.ownsRow lo 64 20 v' (n + 1) (xs ++ c) → w.grownBy w' av.ownBlock → (v'.ownBlock = av.ownBlock ∨ ∀ g, v'.ownBlock = some g → w.heap.size ≤ g) → wpList Try.prog ops Q rest (a.put o.dst v') w') : wpList Try.prog ops Q (o :: rest) a w := by
  obtain ⟨i, hi, hz, hs1, hby⟩ := info_parts info64
  rcases hown.2 with ⟨rfl, h0⟩ | ⟨g, cap, cur, rfl, hB, hg, hnc, hcm, hcs, htk⟩
  · subst h0
    have hxs : xs = [] := List.eq_nil_of_length_eq_zero (by simpa using hown.1)
    subst hxs
    refine wpList_append_grows w hgd s x 43 ho 64 i _ 20 304 Try.underlying43 hi hz hs1 hby rfl (by decide) none 0 0 [] hs (fun _ => ⟨rfl, rfl⟩) rfl (fun b hb => by cases hb) ad 1 1 c hx (by omega) hc h1c (by omega) (by unfold maxLen; omega) (by omega) ?_
    intro v' w' ho' hg'
    exact h v' w' (owns_mono ho' hlo) hg' (.inr (fun k hk => (ho'.lt k hk).1))
  · by_cases hroom : n + 1 ≤ cap
    · refine wpList_append_fits w hgd s x 43 ho lo 64 i 20 Try.underlying43 hi hs1 g n cap xs hs hown ad 1 1 c hx (by omega) hc h1c hroom ?_
      intro w' ho' hg'
      exact h _ w' ho' hg' (.inl rfl)
    · refine wpList_append_grows w hgd s x 43 ho 64 i _ 20 304 Try.underlying43 hi hz hs1 hby rfl (by decide) (some ⟨g, 0, none⟩) n cap xs hs (fun e => by cases e) hown.1 (fun b hb => ?_) ad 1 1 c hx (by omega) hc h1c (by omega) (by unfold maxLen; omega) (by omega) ?_
      · obtain rfl := Option.some.inj hb
        exact hown.cells (g := g) rfl
      · intro v' w' ho' hg'
        exact h v' w' (owns_mono ho' hlo) (grown_weak hg') (.inr (fun k hk => (ho'.lt k hk).1))

theorem run_build1' (a0 a1 a2 a3 a4 a5 a6 a7 a8 a9 b0 b1 b2 b3 b4 b5 b6 b7 b8 b9 : Value) (w : World) : (Instr.buildSlice 43 1 #[(0, .agg #[a0, a1, a2, a3, a4, a5, a6, a7, a8, a9, b0, b1, b2, b3, b4, b5, b6, b7, b8, b9])]).run Try.prog w = .ok (.slice (some ⟨w.heap.size, 0, none⟩) 1 1) (w.alloc (.cells #[a0, a1, a2, a3, a4, a5, a6, a7, a8, a9, b0, b1, b2, b3, b4, b5, b6, b7, b8, b9] 64)) := by kernel_rfl

theorem run_build1 (c : List Value) (h : c.length = 20) (w : World) : (Instr.buildSlice 43 1 #[(0, .agg c.toArray)]).run Try.prog w = .ok (.slice (some ⟨w.heap.size, 0, none⟩) 1 1) (w.alloc (.cells c.toArray 64)) := by
  match c, h with
  | [a0, a1, a2, a3, a4, a5, a6, a7, a8, a9, b0, b1, b2, b3, b4, b5, b6, b7, b8, b9], _ => exact run_build1' a0 a1 a2 a3 a4 a5 a6 a7 a8 a9 b0 b1 b2 b3 b4 b5 b6 b7 b8 b9 w

theorem wpl_build1 {ops : Array Oper} {rest : List Oper} {o : Oper} {a : Act} {w : World} {Q : Exit → Act → World → Prop} (hgd : o.guard = none) (x : Operand) (ho : o.op = .buildSlice 43 1 #[(0, x)]) (c : List Value) (hc : c.length = 20) (hx : a.eval x = .agg c.toArray)
    (h : wpList Try.prog ops Q rest (a.put o.dst (.slice (some ⟨w.heap.size, 0, none⟩) 1 1)) (w.alloc (.cells c.toArray 64))) : wpList Try.prog ops Q (o :: rest) a w := by
  refine wpList_plain hgd fun K hK => ?_
  unfold Oper.wp
  have hr := run_build1 c hc w
  simp only [execOp, ho, List.map_toArray, List.map_cons, List.map_nil, hx]
  rw [Sem.run_bind, hr]
  exact hK _ _ h

theorem VT.one {R : Nat} {raw : ByteArray} {keep : Bool} {f lo hi : Nat} {w : World} {cs : List Value} {ts : List Tok} (h : VT R raw keep f lo hi w cs ts) : ∀ u ∈ cs, u.oneCell' = true := by
  obtain ⟨k1, b1, n1, x1, s1, m1, p1, q1, r1, p2, q2, r2, p3, q3, r3, rfl⟩ := h.cells
  exact List.all_eq_true.1 rfl

theorem entry_one {R : Nat} {raw : ByteArray} {keep : Bool} {f lo hi : Nat} {w : World} {c : List Value} {ts ts' : List Tok} (h : VT R raw keep f lo hi w (c.take 10) ts) (h' : VT R raw keep f lo hi w (c.drop 10) ts') : ∀ u ∈ c, u.oneCell' = true := by
  intro u hu
  rw [← List.take_append_drop 10 c] at hu
  rcases List.mem_append.1 hu with h1 | h1
  · exact h.one u h1
  · exact h'.one u h1

def zeroE : List Value := [.int .u8 0, .bool false, .int .i64 0, .float .f64 0, .string ⟨#[]⟩, .string ⟨#[]⟩, .slice none 0 0, .slice none 0 0, .slice none 0 0, .slice none 0 0, .int .u8 0, .bool false, .int .i64 0, .float .f64 0, .string ⟨#[]⟩, .string ⟨#[]⟩, .slice none 0 0, .slice none 0 0, .slice none 0 0, .slice none 0 0]

/-- a new block that is written whole -/
structure Fresh (w w' : World) (cs : List Value) (t : TypeId) : Prop where
  size : w'.heap.size = w.heap.size + 1
  blk : w'.heap[w.heap.size]? = some (.cells cs.toArray t (0, 0))
  grown : w.grownBy w' none

theorem fresh_store {w : World} {z : Array Value} {t : TypeId} {cs : List Value} (hl : cs.length = z.size) : Fresh w ((w.alloc (.cells z t)).setCells w.heap.size 0 cs) cs t := by
  refine ⟨by rw [size_setCells]; simp, blk_setAll (Go.Deep.blk_alloc_new _ _) hl, ?_⟩
  exact grown_setCells (World.grownBy_alloc w _ none) (Nat.le_refl _)

theorem there_new {w : World} {z : Array Value} {t : TypeId} : (w.alloc (.cells z t)).there w.heap.size 0 z.size := fun j hj => by
  rw [Nat.zero_add, blk_cell (Go.Deep.blk_alloc_new _ _) j, blk_frozen (Go.Deep.blk_alloc_new _ _) j]
  exact ⟨by simp [hj], rfl⟩

theorem Fresh.range {w w' : World} {cs : List Value} {t : TypeId} (h : Fresh w w' cs t) : w'.rangeAt w.heap.size 0 cs := fun j v hv => by
  rw [Nat.zero_add, blk_cell h.blk j]
  simpa using hv

theorem laid_cells {w : World} {t : TypeId} (cs : List Value) : ∀ j u, cs[j]? = some u → (w.alloc (.cells cs.toArray t)).cell? ((⟨w.heap.size, 0, none⟩ : Addr).add j) = some u := fun j u hu => by
  rw [add_plain, World.cell?_alloc_at _ _ _ _ rfl]
  simpa using hu

/-- the attributes gathered so far: es: where each of them starts among the tokens -/
def AV (R : Nat) (raw : ByteArray) (keep : Bool) (N lo : Nat) (w : World) (av : Value) (es : List (List Tok)) : Prop :=
  (keep = false → av = .slice none 0 0) ∧ (es = [] → av = .slice none 0 0) ∧
  (keep = true → ∃ xs, w.ownsRow lo 64 20 av es.length xs ∧ ∀ j, j < es.length → ∃ l h, lo ≤ l ∧ h ≤ w.heap.size ∧ (∀ g, av.ownBlock = some g → g < l ∨ h ≤ g) ∧
    VT R raw keep N l h w ((xs.drop (20 * j)).take 10) (es.getD j []) ∧ VT R raw keep N l h w ((xs.drop (20 * j + 10)).take 10) (aft R (es.getD j []) 1))

theorem AV.start (R : Nat) (raw : ByteArray) (keep : Bool) (N lo : Nat) (w : World) : AV R raw keep N lo w (.slice none 0 0) [] :=
  ⟨fun _ => rfl, fun _ => rfl, fun _ => ⟨[], World.ownsRow_nil _ _ _ _, fun j hj => by simp at hj⟩⟩

theorem AV.grown {R : Nat} {raw : ByteArray} {keep : Bool} {N lo : Nat} {w w' : World} {av : Value} {es : List (List Tok)} {pb : Nat} (h : AV R raw keep N lo w av es) (hg : w.grownBy w' (some pb)) (hpb : pb < lo) : AV R raw keep N lo w' av es := by
  obtain ⟨h1, h2, h3⟩ := h
  refine ⟨h1, h2, fun hk => ?_⟩
  obtain ⟨xs, k1, k2⟩ := h3 hk
  refine ⟨xs, k1.kept hg ?_, fun j hj => ?_⟩
  · cases hob : av.ownBlock with
    | none => exact .inl rfl
    | some g => right; intro e; have := (k1.lt g hob).1; simp at e; omega
  · obtain ⟨l, u, a1, a2, a3, a4, a5⟩ := k2 j hj
    exact ⟨l, u, a1, Nat.le_trans a2 hg.size, a3, a4.grown hg a2 (fun k hk => by cases hk; left; omega), a5.grown hg a2 (fun k hk => by cases hk; left; omega)⟩

/-- nothing old has turned -/
theorem AV.newer {R : Nat} {raw : ByteArray} {keep : Bool} {N lo : Nat} {w w' : World} {av : Value} {es : List (List Tok)} (h : AV R raw keep N lo w av es) (hg : w.grownBy w' none) : AV R raw keep N lo w' av es := by
  obtain ⟨h1, h2, h3⟩ := h
  refine ⟨h1, h2, fun hk => ?_⟩
  obtain ⟨xs, k1, k2⟩ := h3 hk
  refine ⟨xs, k1.kept hg (by cases av.ownBlock with | none => exact .inl rfl | some g => exact .inr (by simp)), fun j hj => ?_⟩
  obtain ⟨l, u, a1, a2, a3, a4, a5⟩ := k2 j hj
  exact ⟨l, u, a1, Nat.le_trans a2 hg.size, a3, a4.grown hg a2 (fun k hk => by cases hk), a5.grown hg a2 (fun k hk => by cases hk)⟩

/-- one entry more: its pieces were built in [l, u); then it was appended -/
theorem AV.append {R : Nat} {raw : ByteArray} {keep : Bool} {N lo : Nat} {w w' : World} {av v' : Value} {es : List (List Tok)} {xs c : List Value} {s : List Tok} {l u : Nat} (hk : keep = true)
    (hown : w.ownsRow lo 64 20 av es.length xs) (hold : ∀ j, j < es.length → ∃ l h, lo ≤ l ∧ h ≤ w.heap.size ∧ (∀ g, av.ownBlock = some g → g < l ∨ h ≤ g) ∧ VT R raw keep N l h w ((xs.drop (20 * j)).take 10) (es.getD j []) ∧ VT R raw keep N l h w ((xs.drop (20 * j + 10)).take 10) (aft R (es.getD j []) 1))
    (hc : c.length = 20) (hl : lo ≤ l) (hu : u ≤ w.heap.size) (hav : ∀ g, av.ownBlock = some g → g < l ∨ u ≤ g) (n1 : VT R raw keep N l u w (c.take 10) s) (n2 : VT R raw keep N l u w (c.drop 10) (aft R s 1))
    (hown' : w'.ownsRow lo 64 20 v' (es.length + 1) (xs ++ c)) (hg : w.grownBy w' av.ownBlock) (hv' : v'.ownBlock = av.ownBlock ∨ ∀ g, v'.ownBlock = some g → w.heap.size ≤ g) : AV R raw keep N lo w' v' (es ++ [s]) := by
  have hxl : xs.length = es.length * 20 := hown.1
  refine ⟨fun h => absurd h (by simp [hk]), fun h => absurd h (by simp), fun _ => ⟨xs ++ c, by simpa using hown', fun j hj => ?_⟩⟩
  have own : ∀ l h : Nat, h ≤ w.heap.size → (∀ g, av.ownBlock = some g → g < l ∨ h ≤ g) → ∀ g, v'.ownBlock = some g → g < l ∨ h ≤ g := by
    intro l h hh hx g hg'
    rcases hv' with e | e
    · exact hx g (by rw [← e]; exact hg')
    · right; have := e g hg'; omega
  by_cases hlt : j < es.length
  · obtain ⟨l1, u1, a1, a2, a3, a4, a5⟩ := hold j hlt
    have e1 : (es ++ [s]).getD j [] = es.getD j [] := by simp [List.getD, List.getElem?_append_left hlt]
    have e2 : ((xs ++ c).drop (20 * j)).take 10 = (xs.drop (20 * j)).take 10 := by
      rw [List.drop_append_of_le_length (by omega), List.take_append_of_le_length (by simp; omega)]
    have e3 : ((xs ++ c).drop (20 * j + 10)).take 10 = (xs.drop (20 * j + 10)).take 10 := by
      rw [List.drop_append_of_le_length (by omega), List.take_append_of_le_length (by simp; omega)]
    rw [e1, e2, e3]
    exact ⟨l1, u1, a1, Nat.le_trans a2 hg.size, own l1 u1 a2 a3, a4.grown hg a2 a3, a5.grown hg a2 a3⟩
  · have hj' : j = es.length := by simp at hj; omega
    subst hj'
    have e1 : (es ++ [s]).getD es.length [] = s := by simp [List.getD]
    have e2 : ((xs ++ c).drop (20 * es.length)).take 10 = c.take 10 := by
      rw [show 20 * es.length = xs.length by omega, List.drop_left]
    have e3 : ((xs ++ c).drop (20 * es.length + 10)).take 10 = c.drop 10 := by
      rw [show 20 * es.length + 10 = xs.length + 10 by omega, ← List.drop_drop, List.drop_left]
      exact List.take_of_length_le (by simp; omega)
    rw [e1, e2, e3]
    exact ⟨l, u, hl, Nat.le_trans hu hg.size, own l u hu hav, n1.grown hg hu hav, n2.grown hg hu hav⟩

/-- at the end: what VT asks of the attributes -/
theorem AV.arr {R : Nat} {raw : ByteArray} {keep : Bool} {N lo : Nat} {w : World} {av : Value} {es : List (List Tok)} (h : AV R raw keep N lo w av es) :
    (keep = true ∧ es ≠ [] → Arr w lo w.heap.size av 20 es.length (fun j c => VT R raw keep N lo w.heap.size w (c.take 10) (es.getD j []) ∧ VT R raw keep N lo w.heap.size w (c.drop 10) (aft R (es.getD j []) 1))) ∧ (¬ (keep = true ∧ es ≠ []) → av = .slice none 0 0) := by
  obtain ⟨h1, h2, h3⟩ := h
  refine ⟨fun ⟨hk, hne⟩ => ?_, fun hn => ?_⟩
  · obtain ⟨xs, k1, k2⟩ := h3 hk
    rcases k1.2 with ⟨_, h0⟩ | ⟨g, cap, cur, hv, hB, hg, hnc, hcm, hcs, htk⟩
    · exact absurd (List.eq_nil_of_length_eq_zero h0) hne
    · refine ⟨g, cap, hv, hB, blk_lt hg, hnc, hcm, fun j hj => ?_⟩
      obtain ⟨l, u, a1, a2, a3, a4, a5⟩ := k2 j hj
      have hxl : xs.length = es.length * 20 := k1.1
      refine ⟨(xs.drop (20 * j)).take 20, by simp; omega, fun i x hx => ?_, ?_, ?_⟩
      · subst hv
        have hi : i < 20 := by
          have := (List.getElem?_eq_some_iff.1 hx).1
          simp at this; omega
        rw [k1.cellAt (j * 20 + i) (by omega)]
        rw [List.getElem?_take, if_pos hi, List.getElem?_drop] at hx
        rw [show j * 20 + i = 20 * j + i by omega]
        exact hx
      · rw [List.take_take, show min 10 20 = 10 by rfl]
        exact a4.wider a1 a2
      · rw [List.drop_take, List.drop_drop]
        exact a5.wider a1 a2
  · by_cases hk : keep = true
    · exact h2 (Classical.byContradiction fun e => hn ⟨hk, e⟩)
    · exact h1 (by simpa using hk)

end Go.Proofs.Qxb6601678a.Bv
