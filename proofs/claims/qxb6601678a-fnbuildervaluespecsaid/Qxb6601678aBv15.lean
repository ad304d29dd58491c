/-
  A slice of tokens, opened.
-/
import Derived.Test.Qxb6601678aBv14
import Derived.Deep.Slices
import Derived.ChangeArms
namespace Go.Proofs.Qxb6601678a.Bv
open Go.RowKit Go.ChangeShapes Go.WideShapes Go.ChangeAt
set_option linter.unusedVariables false
set_option maxRecDepth 100000

theorem cellsOf55 : Try.prog.cellsOf 55 = 8 := by kernel_rfl
theorem cellsOf5 : Try.prog.cellsOf 5 = 1 := by kernel_rfl
theorem cellsOf4 : Try.prog.cellsOf 4 = 1 := by kernel_rfl
theorem cellsOf3 : Try.prog.cellsOf 3 = 1 := by kernel_rfl
theorem cellsOf2 : Try.prog.cellsOf 2 = 1 := by kernel_rfl
theorem cellsOf41 : Try.prog.cellsOf 41 = 1 := by kernel_rfl

section
variable {H : Type} {enc : TypeId × Value → H} {w : World} {base : Nat} {spare : Nat → Bool} {held : Bool}

theorem trod_float {P : Program} {t : TypeId} {k : FloatKind} {fuel : Nat} {cs : List Value} {x : DataW H × List MemPlace} (ht : P.underlying t = some (.float k)) (h : DataW.trod enc P w base spare held fuel t cs = some x) : ∃ b, cs = [.float k b] := by
  cases fuel with
  | zero => simp [DataW.trod] at h
  | succ n =>
    unfold DataW.trod at h
    rw [ht] at h
    split at h <;> simp_all

/-- one token, opened -/
theorem open_tok {fuel : Nat} {cs : List Value} {x : DataW H × List MemPlace} (hl : cs.length = 8) (h : DataW.trod enc Try.prog w base spare held fuel 55 cs = some x) : ∃ t : Tok, TokWf t ∧ cs = tokCells t := by
  obtain ⟨xs, k, _, _, _, hxl, hf⟩ := DataW.trod_struct Try.underlying55 h
  match cs, hl, xs, hxl with
  | [v0, v1, v2, v3, v4, v5, v6, v7], _, [y0, y1, y2, y3, y4, y5, y6, y7], _ =>
    have g0 := hf 0 _ rfl
    have g1 := hf 1 _ rfl
    have g2 := hf 2 _ rfl
    have g3 := hf 3 _ rfl
    have g4 := hf 4 _ rfl
    have g5 := hf 5 _ rfl
    have g6 := hf 6 _ rfl
    have g7 := hf 7 _ rfl
    simp [cellsOf5, cellsOf4, cellsOf3, cellsOf2, cellsOf41] at g0 g1 g2 g3 g4 g5 g6 g7
    obtain ⟨n0, e0, _, w0⟩ := DataW.trod_int Try.underlying5 g0
    obtain ⟨n1, e1, _⟩ := DataW.trod_bool Try.underlying4 g1
    obtain ⟨n2, e2, _, w2⟩ := DataW.trod_int Try.underlying3 g2
    obtain ⟨n3, e3, _, w3⟩ := DataW.trod_int Try.underlying3 g3
    obtain ⟨n4, e4, _, w4⟩ := DataW.trod_int Try.underlying3 g4
    obtain ⟨n5, e5, _, w5⟩ := DataW.trod_int Try.underlying2 g5
    obtain ⟨n6, e6⟩ := trod_float Try.underlying41 g6
    obtain ⟨n7, e7, _⟩ := DataW.trod_bool Try.underlying4 g7
    cases e0; cases e1; cases e2; cases e3; cases e4; cases e5; cases e6; cases e7
    exact ⟨⟨n0, n1, n2, n3, n4, n5, n6, n7⟩, ⟨bounds_u8 w0, bounds_i64 w2, bounds_i64 w3, bounds_i64 w4⟩, rfl⟩

/-- the slice, opened -/
theorem open_toks {fuel : Nat} {a : Option Addr} {len cap : Nat} {x : DataW H × List MemPlace} (h : DataW.trod enc Try.prog w base spare held fuel 36 [.slice a len cap] = some x) : ∃ toks, CameT w a len cap toks := by
  rcases Go.Deep.open_slice Try.underlying36 h with ⟨h0, _⟩ | ⟨a', len', cap', m, n, D, Pl, hcs, hb, hl, hm, hmm, _, hx⟩
  · simp at h0
    obtain ⟨rfl, rfl, rfl⟩ := h0
    exact ⟨[], .inl ⟨rfl, rfl, rfl, rfl⟩⟩
  · simp at hcs
    obtain ⟨rfl, rfl, rfl⟩ := hcs
    have hlm : len ≤ m := by rw [hmm]; split <;> omega
    have each : ∀ i, i < len → ∃ t : Tok, TokWf t ∧ ∀ j u, (tokCells t)[j]? = some u → w.cell? (a'.add (i * 8 + j)) = some u := by
      intro i hi
      obtain ⟨cs', h1, h2⟩ := hx i (by omega)
      rw [cellsOf55] at h1
      obtain ⟨_, hlen, hcell⟩ := World.cells?_some h1
      obtain ⟨t, hw, rfl⟩ := open_tok hlen h2
      refine ⟨t, hw, fun j u hu => ?_⟩
      have hj := (List.getElem?_eq_some_iff.1 hu).1
      have hj8 : j < 8 := hj
      have e := hcell j (by omega)
      rw [Go.Deep.add_add] at e
      rw [e]
      exact hu
    have hin : Inhabited Tok := ⟨⟨0, false, 0, 0, 0, 0, 0, false⟩⟩
    obtain ⟨q, hq⟩ := Go.Deep.choose_lt each
    refine ⟨(List.range len).map q, .inr ⟨a', rfl, hl, hm, by simp, fun t ht => ?_, fun i t hi j u hu => ?_⟩⟩
    · obtain ⟨i, hi, rfl⟩ := List.mem_map.1 ht
      exact (hq i (List.mem_range.1 hi)).1
    · rw [List.getElem?_map] at hi
      by_cases hil : i < len
      · simp [hil] at hi
        subst hi
        exact (hq i hil).2 j u hu
      · simp [hil] at hi

end

end Go.Proofs.Qxb6601678a.Bv
