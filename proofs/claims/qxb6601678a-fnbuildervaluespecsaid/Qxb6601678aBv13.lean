/-
  Of the law FnBuilderValueSpec: its bound, its checks; what came in.
-/
import Derived.Test.Qxb6601678aBv12
import Derived.Test.Qxb6601678aBv8
namespace Go.Proofs.Qxb6601678a.Bv
open Go.RowKit Go.ChangeShapes Go.WideShapes Go.ChangeAt
set_option linter.unusedVariables false
set_option maxRecDepth 100000

/-! ### the bound on the lengths -/
theorem zz24 (a0 : Option Addr) (l0 c0 : Nat) (a1 : Option Addr) (l1 c1 : Nat) (s : ByteArray) (keep : Bool) (w : World) (h0 : l0 ≤ maxLen) (h1 : l1 ≤ maxLen) (h2 : s.size ≤ maxLen) :
    Calls Try.prog 24 #[.slice a0 l0 c0, .slice a1 l1 c1, .string s, .bool keep] w fun e w' => e = .returned (.bool (decide (l0 + l1 + s.size ≤ 1048576))) ∧ w = w' := by
  unfold maxLen at h0 h1 h2
  by_cases k0 : l0 ≤ 1048576
  · by_cases k1 : l1 ≤ 1048576
    · by_cases k2 : l0 + l1 ≤ 1048576
      · by_cases k3 : s.size ≤ 1048576
        · by_cases k4 : l0 + l1 + s.size ≤ 1048576
          · rw [decide_eq_true k4]
            go_enter Try.func24, Try.ntmps24
            go_wp2
            go_ret
            exact ⟨rfl, rfl⟩
          · rw [decide_eq_false k4]
            go_enter Try.func24, Try.ntmps24
            go_wp2
            go_ret
            exact ⟨rfl, rfl⟩
        · rw [decide_eq_false (by omega)]
          go_enter Try.func24, Try.ntmps24
          go_wp2
          go_ret
          exact ⟨rfl, rfl⟩
      · rw [decide_eq_false (by omega)]
        go_enter Try.func24, Try.ntmps24
        go_wp2
        go_ret
        exact ⟨rfl, rfl⟩
    · rw [decide_eq_false (by omega)]
      go_enter Try.func24, Try.ntmps24
      go_wp2
      go_ret
      exact ⟨rfl, rfl⟩
  · rw [decide_eq_false (by omega)]
    go_enter Try.func24, Try.ntmps24
    go_wp2
    go_ret
    exact ⟨rfl, rfl⟩

/-! ### extent of no tokens -/
theorem extent_zero (a : Option Addr) (cap R : Nat) (w : World) :
    Calls Try.prog 25 #[.slice a 0 cap, .int .i64 0, .int .i64 1, .int .i64 R] w fun e w' => e = .returned (.int .i64 (-1)) ∧ w = w' := by
  go_enter Try.func25, Try.ntmps25
  go_wp2
  refine wp_loop_rounds 1 ?_
  rw [rounds_succ]
  go_wp2
  go_ret
  exact ⟨rfl, rfl⟩

/-! ### raw as a string -/
theorem conv_addr {w : World} {x : Addr} {len cap : Nat} {xs : List Int} (hlen : xs.length = len) (hcell : ∀ i, i < len → w.cell? (x.add i) = some (.int .u8 (xs.getD i 0))) :
    (convert 22 9 (.slice (some x) len cap)).run Try.prog w = .ok (.string (strOfNums xs)) w := by
  have hl : (loadCells x len).run Try.prog w = .ok (xs.map (Value.int .u8)).toArray w := by
    have := run_loadCells_list (P := Try.prog) w x (xs.map (Value.int .u8)) (fun j v hj => by
      have hjl : j < xs.length := by
        have := (List.getElem?_eq_some_iff.1 hj).1
        simpa using this
      rw [hcell j (by omega)]
      simp [List.getElem?_eq_getElem hjl] at hj
      subst hj
      simp [List.getD, List.getElem?_eq_getElem hjl])
    simpa [hlen] using this
  rw [run_convert_bytes_string w 22 9 5 _ len cap Try.underlying22 Try.underlying5 Try.underlying9, run_bytesToString w _ len cap xs hl, foldl_push_bytes]
  simp [strOfNums, ByteArray.empty, ByteArray.emptyWithCapacity]
  rfl

theorem Came.txt {w : World} {a : Option Addr} {len cap : Nat} {zs : List Int} (h : Came .u8 w a len cap zs) : (convert 22 9 (.slice a len cap)).run Try.prog w = .ok (.string (strOfNums (zs.take len))) w := by
  have ht := h.take_length
  rcases h with ⟨rfl, rfl, rfl, rfl⟩ | ⟨x, rfl, hl, hcm, hz, hc, hwf⟩
  · exact run_convert_bytes_nil w 22 5 Try.underlying22 Try.underlying5 0 0 9 Try.underlying9
  · exact conv_addr ht (fun i hi => by rw [getD_take zs len i hi]; exact hc i (by omega))

theorem cell_block_lt {w : World} {p : Addr} {v : Value} (h : w.cell? p = some v) : p.block < w.heap.size := by
  by_cases hb : p.block < w.heap.size
  · exact hb
  · simp [World.cell?, hb] at h

theorem Came.below {w w' : World} {a : Option Addr} {len cap : Nat} {zs : List Int} (h : Came .u8 w a len cap zs) (hb : Below w.heap.size w w') : Came .u8 w' a len cap zs := by
  rcases h with h | ⟨x, h1, hl, hcm, hz, hc, hwf⟩
  · exact .inl h
  · exact .inr ⟨x, h1, hl, hcm, hz, fun i hi => (hb.cell (p := x.add i) (cell_block_lt (hc i hi))).trans (hc i hi), hwf⟩

/-- a slice of tokens that came in -/
def CameT (w : World) (a : Option Addr) (len cap : Nat) (toks : List Tok) : Prop :=
  (a = none ∧ len = 0 ∧ cap = 0 ∧ toks = []) ∨
  ∃ x, a = some x ∧ len ≤ cap ∧ cap ≤ maxLen ∧ toks.length = len ∧ (∀ t ∈ toks, TokWf t) ∧ ∀ i t, toks[i]? = some t → ∀ j u, (tokCells t)[j]? = some u → w.cell? (x.add (i * 8 + j)) = some u

theorem CameT.max {w : World} {a : Option Addr} {len cap : Nat} {toks : List Tok} (h : CameT w a len cap toks) : len ≤ maxLen := by
  rcases h with ⟨_, rfl, _, _⟩ | ⟨x, _, h1, h2, _⟩
  · exact Nat.zero_le _
  · omega

theorem CameT.row {w : World} {a : Option Addr} {len cap : Nat} {toks : List Tok} (h : CameT w a len cap toks) (h0 : 0 < len) :
    ∃ b off, a = some ⟨b, off, none⟩ ∧ b < w.heap.size ∧ toks.length = len ∧ TokRow w b off toks ∧ ∀ t ∈ toks, TokWf t := by
  rcases h with ⟨_, rfl, _, _⟩ | ⟨x, rfl, h1, h2, h3, h4, h5⟩
  · omega
  · obtain ⟨b, off, spot⟩ := x
    obtain ⟨t, ht⟩ : ∃ t, toks[0]? = some t := ⟨toks[0]'(by omega), List.getElem?_eq_getElem _⟩
    have hc := h5 0 t ht 0 _ rfl
    have hspot : spot = none := by simpa [Addr.add] using World.cell?_spot hc
    subst hspot
    have hc' : ∀ i t, toks[i]? = some t → ∀ j u, (tokCells t)[j]? = some u → w.cell? ⟨b, off + i * 8 + j, none⟩ = some u := fun i t hi j u hu => by
      rw [Nat.add_assoc, ← add_plain]
      exact h5 i t hi j u hu
    exact ⟨b, off, rfl, cell_lt (hc' 0 t ht 0 _ rfl), h3, hc', h4⟩

end Go.Proofs.Qxb6601678a.Bv
