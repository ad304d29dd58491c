/-
  callValue.
-/
import Derived.Test.Qxb6601678aBv11
namespace Go.Proofs.Qxb6601678a.Bv
open Go.RowKit Go.ChangeShapes Go.WideShapes Go.ChangeAt
set_option linter.unusedVariables false
set_option maxRecDepth 100000

attribute [local go_sem] run_store_float

theorem inf5 : (Try.prog.info? 5).map (fun i => (i.zero, i.size, i.bytes)) = some (some (.int .u8 0), 1, 1) := by kernel_rfl
theorem inf4 : (Try.prog.info? 4).map (fun i => (i.zero, i.size, i.bytes)) = some (some (.bool false), 1, 1) := by kernel_rfl
theorem inf3 : (Try.prog.info? 3).map (fun i => (i.zero, i.size, i.bytes)) = some (some (.int .i64 0), 1, 8) := by kernel_rfl
theorem inf2 : (Try.prog.info? 2).map (fun i => (i.zero, i.size, i.bytes)) = some (some (.int .i64 0), 1, 8) := by kernel_rfl
theorem inf41 : (Try.prog.info? 41).map (fun i => (i.zero, i.size, i.bytes)) = some (some (.float .f64 0), 1, 8) := by kernel_rfl

/-- the first j of n cells of block g hold the tokens' field -/
def Col (toks : List Tok) (e : TypeId) (g n j : Nat) (f : Tok → Value) (w : World) : Prop :=
  ∃ M : Array Value, w.heap[g]? = some (.cells M e (0, 0)) ∧ M.size = n ∧ ∀ i t, i < j → toks[i]? = some t → M[i]? = some (f t)

theorem Col.set {toks : List Tok} {e : TypeId} {g n j : Nat} {f : Tok → Value} {w : World} {t : Tok} (h : Col toks e g n j f w) (hj : j < n) (ht : toks[j]? = some t) : Col toks e g n (j + 1) f (w.setCell ⟨g, j, none⟩ (f t)) := by
  obtain ⟨M, h1, h2, h3⟩ := h
  refine ⟨M.setIfInBounds j (f t), blk_set h1 j _, by simpa using h2, fun i t' hi ht' => ?_⟩
  rw [Array.getElem?_setIfInBounds]
  by_cases e : j = i
  · subst e
    rw [if_pos rfl, if_pos (by omega)]
    rw [ht] at ht'
    cases ht'
    rfl
  · rw [if_neg e]
    exact h3 i t' (by omega) ht'

theorem Col.other {toks : List Tok} {e : TypeId} {g n j b i : Nat} {f : Tok → Value} {w : World} {v : Value} (h : Col toks e g n j f w) (hb : g ≠ b) : Col toks e g n j f (w.setCell ⟨b, i, none⟩ v) := by
  obtain ⟨M, h1, h2, h3⟩ := h
  exact ⟨M, by rw [Go.Deep.blk_setCell_other _ _ _ _ hb]; exact h1, h2, h3⟩

theorem Col.dst {toks : List Tok} {e : TypeId} {g n j : Nat} {f : Tok → Value} {w : World} (h : Col toks e g n j f w) (hj : j < n) : (∃ v, w.cell? ⟨g, j, none⟩ = some v) ∧ w.frozen? ⟨g, j, none⟩ = false := by
  obtain ⟨M, h1, h2, h3⟩ := h
  exact ⟨⟨M[j]'(by omega), by rw [blk_cell h1]; exact Array.getElem?_eq_getElem _⟩, blk_frozen h1 j⟩

theorem heap_set_other {w : World} {b i g : Nat} {v : Value} {x : Option Obj} (hb : g ≠ b) (h : w.heap[g]? = x) : (w.setCell ⟨b, i, none⟩ v).heap[g]? = x :=
  (Go.Deep.blk_setCell_other _ _ _ _ hb).trans h

theorem below_cell {B : Nat} {w w' : World} {b i : Nat} {v : Value} (h : Below B w w') (hB : B ≤ b) : Below B w (w'.setCell ⟨b, i, none⟩ v) := h.setCell hB _

theorem Col.cell {toks : List Tok} {e : TypeId} {g n j i : Nat} {f : Tok → Value} {w : World} {t : Tok} (h : Col toks e g n j f w) (hi : i < j) (ht : toks[i]? = some t) : w.cell? ⟨g, i, none⟩ = some (f t) := by
  obtain ⟨M, h1, h2, h3⟩ := h
  rw [blk_cell h1]
  exact h3 i t hi ht

set_option maxHeartbeats 4000000 in
theorem callValue_any (gL : Nat) (toks r : List Tok) (rl : List Int) (rawV : Value) (wire : ByteArray) (keep : Bool) (w : World) (hrow : TokRow w gL 0 toks) (hgl : gL < w.heap.size) (hraw : RawSl w rawV rl) (hwire : wire = ByteArray.empty ∨ wire = strOfNums rl) (hwf : ∀ t ∈ toks, TokWf t) (hn : toks.length ≤ 32768) (hrl : rl.length ≤ 1048576) (hext : ext rl.length toks 1 = some r) :
    Calls Try.prog 27 #[.slice (some ⟨gL, 0, none⟩) toks.length toks.length, rawV, .string wire, .bool keep] w fun e w' => ∃ cs lo hi, e = .returned (.tuple #[.agg cs.toArray, .int .i64 (r.length : Int)]) ∧ VT rl.length (strOfNums rl) keep toks.length lo hi w' cs toks ∧ hi ≤ w'.heap.size ∧ Below w.heap.size w w' := by
  have HROW := hide hrow
  have HRW := hide hraw
  have HWI := hide hwire
  have HWF := hide hwf
  have HEX := hide hext
  obtain ⟨n, hnn⟩ : ∃ n, n = toks.length := ⟨_, rfl⟩
  rw [← hnn] at hn ⊢
  have HN := hide hnn
  clear hrow hraw hwire hwf hext hnn
  go_enter Try.func27, Try.ntmps27
  go_wp2_with (first | (refine wpl_make rfl 22 5 (.tmp 22) rfl _ 1 1 Try.underlying22 inf5 n (by rfl) (by omega) (by omega) ?_; intro M0 hM0) | (refine wpl_make rfl 57 4 (.tmp 24) rfl _ 1 1 Try.underlying57 inf4 n (by rfl) (by omega) (by omega) ?_; intro M1 hM1) | (refine wpl_make rfl 58 3 (.tmp 26) rfl _ 1 8 Try.underlying58 inf3 n (by rfl) (by omega) (by omega) ?_; intro M2 hM2) | (refine wpl_make rfl 58 3 (.tmp 28) rfl _ 1 8 Try.underlying58 inf3 n (by rfl) (by omega) (by omega) ?_; intro M3 hM3) | (refine wpl_make rfl 58 3 (.tmp 30) rfl _ 1 8 Try.underlying58 inf3 n (by rfl) (by omega) (by omega) ?_; intro M4 hM4) | (refine wpl_make rfl 59 2 (.tmp 32) rfl _ 1 8 Try.underlying59 inf2 n (by rfl) (by omega) (by omega) ?_; intro M5 hM5) | (refine wpl_make rfl 60 41 (.tmp 34) rfl _ 1 8 Try.underlying60 inf41 n (by rfl) (by omega) (by omega) ?_; intro M6 hM6) | (refine wpl_make rfl 57 4 (.tmp 36) rfl _ 1 1 Try.underlying57 inf4 n (by rfl) (by omega) (by omega) ?_; intro M7 hM7))
  have HST : Hid (Col toks 5 (w.heap.size + 1) n 0 (fun t => .int .u8 t.kind) (((((((((w.alloc (.cells #[.int .u8 0, .bool false, .int .i64 0, .float .f64 0, .string ⟨#[]⟩, .string ⟨#[]⟩, .slice none 0 0, .slice none 0 0, .slice none 0 0, .slice none 0 0] 46)).alloc (.cells M0 5)).alloc (.cells M1 4)).alloc (.cells M2 3)).alloc (.cells M3 3)).alloc (.cells M4 3)).alloc (.cells M5 2)).alloc (.cells M6 41)).alloc (.cells M7 4)) ∧ Col toks 4 (w.heap.size + 2) n 0 (fun t => .bool t.attr) (((((((((w.alloc (.cells #[.int .u8 0, .bool false, .int .i64 0, .float .f64 0, .string ⟨#[]⟩, .string ⟨#[]⟩, .slice none 0 0, .slice none 0 0, .slice none 0 0, .slice none 0 0] 46)).alloc (.cells M0 5)).alloc (.cells M1 4)).alloc (.cells M2 3)).alloc (.cells M3 3)).alloc (.cells M4 3)).alloc (.cells M5 2)).alloc (.cells M6 41)).alloc (.cells M7 4)) ∧ Col toks 3 (w.heap.size + 3) n 0 (fun t => .int .i64 t.count) (((((((((w.alloc (.cells #[.int .u8 0, .bool false, .int .i64 0, .float .f64 0, .string ⟨#[]⟩, .string ⟨#[]⟩, .slice none 0 0, .slice none 0 0, .slice none 0 0, .slice none 0 0] 46)).alloc (.cells M0 5)).alloc (.cells M1 4)).alloc (.cells M2 3)).alloc (.cells M3 3)).alloc (.cells M4 3)).alloc (.cells M5 2)).alloc (.cells M6 41)).alloc (.cells M7 4)) ∧ Col toks 3 (w.heap.size + 4) n 0 (fun t => .int .i64 t.frm) (((((((((w.alloc (.cells #[.int .u8 0, .bool false, .int .i64 0, .float .f64 0, .string ⟨#[]⟩, .string ⟨#[]⟩, .slice none 0 0, .slice none 0 0, .slice none 0 0, .slice none 0 0] 46)).alloc (.cells M0 5)).alloc (.cells M1 4)).alloc (.cells M2 3)).alloc (.cells M3 3)).alloc (.cells M4 3)).alloc (.cells M5 2)).alloc (.cells M6 41)).alloc (.cells M7 4)) ∧ Col toks 3 (w.heap.size + 5) n 0 (fun t => .int .i64 t.to) (((((((((w.alloc (.cells #[.int .u8 0, .bool false, .int .i64 0, .float .f64 0, .string ⟨#[]⟩, .string ⟨#[]⟩, .slice none 0 0, .slice none 0 0, .slice none 0 0, .slice none 0 0] 46)).alloc (.cells M0 5)).alloc (.cells M1 4)).alloc (.cells M2 3)).alloc (.cells M3 3)).alloc (.cells M4 3)).alloc (.cells M5 2)).alloc (.cells M6 41)).alloc (.cells M7 4)) ∧ Col toks 2 (w.heap.size + 6) n 0 (fun t => .int .i64 t.integer) (((((((((w.alloc (.cells #[.int .u8 0, .bool false, .int .i64 0, .float .f64 0, .string ⟨#[]⟩, .string ⟨#[]⟩, .slice none 0 0, .slice none 0 0, .slice none 0 0, .slice none 0 0] 46)).alloc (.cells M0 5)).alloc (.cells M1 4)).alloc (.cells M2 3)).alloc (.cells M3 3)).alloc (.cells M4 3)).alloc (.cells M5 2)).alloc (.cells M6 41)).alloc (.cells M7 4)) ∧ Col toks 41 (w.heap.size + 7) n 0 (fun t => .float .f64 t.double) (((((((((w.alloc (.cells #[.int .u8 0, .bool false, .int .i64 0, .float .f64 0, .string ⟨#[]⟩, .string ⟨#[]⟩, .slice none 0 0, .slice none 0 0, .slice none 0 0, .slice none 0 0] 46)).alloc (.cells M0 5)).alloc (.cells M1 4)).alloc (.cells M2 3)).alloc (.cells M3 3)).alloc (.cells M4 3)).alloc (.cells M5 2)).alloc (.cells M6 41)).alloc (.cells M7 4)) ∧ Col toks 4 (w.heap.size + 8) n 0 (fun t => .bool t.boolean) (((((((((w.alloc (.cells #[.int .u8 0, .bool false, .int .i64 0, .float .f64 0, .string ⟨#[]⟩, .string ⟨#[]⟩, .slice none 0 0, .slice none 0 0, .slice none 0 0, .slice none 0 0] 46)).alloc (.cells M0 5)).alloc (.cells M1 4)).alloc (.cells M2 3)).alloc (.cells M3 3)).alloc (.cells M4 3)).alloc (.cells M5 2)).alloc (.cells M6 41)).alloc (.cells M7 4)) ∧ (((((((((w.alloc (.cells #[.int .u8 0, .bool false, .int .i64 0, .float .f64 0, .string ⟨#[]⟩, .string ⟨#[]⟩, .slice none 0 0, .slice none 0 0, .slice none 0 0, .slice none 0 0] 46)).alloc (.cells M0 5)).alloc (.cells M1 4)).alloc (.cells M2 3)).alloc (.cells M3 3)).alloc (.cells M4 3)).alloc (.cells M5 2)).alloc (.cells M6 41)).alloc (.cells M7 4)).heap[w.heap.size]? = some (.cells #[.int .u8 0, .bool false, .int .i64 0, .float .f64 0, .string ⟨#[]⟩, .string ⟨#[]⟩, .slice none 0 0, .slice none 0 0, .slice none 0 0, .slice none 0 0] 46 (0, 0)) ∧ (((((((((w.alloc (.cells #[.int .u8 0, .bool false, .int .i64 0, .float .f64 0, .string ⟨#[]⟩, .string ⟨#[]⟩, .slice none 0 0, .slice none 0 0, .slice none 0 0, .slice none 0 0] 46)).alloc (.cells M0 5)).alloc (.cells M1 4)).alloc (.cells M2 3)).alloc (.cells M3 3)).alloc (.cells M4 3)).alloc (.cells M5 2)).alloc (.cells M6 41)).alloc (.cells M7 4)).heap.size = w.heap.size + 9 ∧ Below w.heap.size w (((((((((w.alloc (.cells #[.int .u8 0, .bool false, .int .i64 0, .float .f64 0, .string ⟨#[]⟩, .string ⟨#[]⟩, .slice none 0 0, .slice none 0 0, .slice none 0 0, .slice none 0 0] 46)).alloc (.cells M0 5)).alloc (.cells M1 4)).alloc (.cells M2 3)).alloc (.cells M3 3)).alloc (.cells M4 3)).alloc (.cells M5 2)).alloc (.cells M6 41)).alloc (.cells M7 4))) := by
    have b0 : ((w.alloc (.cells #[.int .u8 0, .bool false, .int .i64 0, .float .f64 0, .string ⟨#[]⟩, .string ⟨#[]⟩, .slice none 0 0, .slice none 0 0, .slice none 0 0, .slice none 0 0] 46)).alloc (.cells M0 5)).heap[w.heap.size + 1]? = some (.cells M0 5 (0, 0)) := by
      have h := Go.Deep.blk_alloc_new (w.alloc (.cells #[.int .u8 0, .bool false, .int .i64 0, .float .f64 0, .string ⟨#[]⟩, .string ⟨#[]⟩, .slice none 0 0, .slice none 0 0, .slice none 0 0, .slice none 0 0] 46)) (.cells M0 5)
      simpa using h
    have b1 : (((w.alloc (.cells #[.int .u8 0, .bool false, .int .i64 0, .float .f64 0, .string ⟨#[]⟩, .string ⟨#[]⟩, .slice none 0 0, .slice none 0 0, .slice none 0 0, .slice none 0 0] 46)).alloc (.cells M0 5)).alloc (.cells M1 4)).heap[w.heap.size + 2]? = some (.cells M1 4 (0, 0)) := by
      have h := Go.Deep.blk_alloc_new ((w.alloc (.cells #[.int .u8 0, .bool false, .int .i64 0, .float .f64 0, .string ⟨#[]⟩, .string ⟨#[]⟩, .slice none 0 0, .slice none 0 0, .slice none 0 0, .slice none 0 0] 46)).alloc (.cells M0 5)) (.cells M1 4)
      simpa using h
    have b2 : ((((w.alloc (.cells #[.int .u8 0, .bool false, .int .i64 0, .float .f64 0, .string ⟨#[]⟩, .string ⟨#[]⟩, .slice none 0 0, .slice none 0 0, .slice none 0 0, .slice none 0 0] 46)).alloc (.cells M0 5)).alloc (.cells M1 4)).alloc (.cells M2 3)).heap[w.heap.size + 3]? = some (.cells M2 3 (0, 0)) := by
      have h := Go.Deep.blk_alloc_new (((w.alloc (.cells #[.int .u8 0, .bool false, .int .i64 0, .float .f64 0, .string ⟨#[]⟩, .string ⟨#[]⟩, .slice none 0 0, .slice none 0 0, .slice none 0 0, .slice none 0 0] 46)).alloc (.cells M0 5)).alloc (.cells M1 4)) (.cells M2 3)
      simpa using h
    have b3 : (((((w.alloc (.cells #[.int .u8 0, .bool false, .int .i64 0, .float .f64 0, .string ⟨#[]⟩, .string ⟨#[]⟩, .slice none 0 0, .slice none 0 0, .slice none 0 0, .slice none 0 0] 46)).alloc (.cells M0 5)).alloc (.cells M1 4)).alloc (.cells M2 3)).alloc (.cells M3 3)).heap[w.heap.size + 4]? = some (.cells M3 3 (0, 0)) := by
      have h := Go.Deep.blk_alloc_new ((((w.alloc (.cells #[.int .u8 0, .bool false, .int .i64 0, .float .f64 0, .string ⟨#[]⟩, .string ⟨#[]⟩, .slice none 0 0, .slice none 0 0, .slice none 0 0, .slice none 0 0] 46)).alloc (.cells M0 5)).alloc (.cells M1 4)).alloc (.cells M2 3)) (.cells M3 3)
      simpa using h
    have b4 : ((((((w.alloc (.cells #[.int .u8 0, .bool false, .int .i64 0, .float .f64 0, .string ⟨#[]⟩, .string ⟨#[]⟩, .slice none 0 0, .slice none 0 0, .slice none 0 0, .slice none 0 0] 46)).alloc (.cells M0 5)).alloc (.cells M1 4)).alloc (.cells M2 3)).alloc (.cells M3 3)).alloc (.cells M4 3)).heap[w.heap.size + 5]? = some (.cells M4 3 (0, 0)) := by
      have h := Go.Deep.blk_alloc_new (((((w.alloc (.cells #[.int .u8 0, .bool false, .int .i64 0, .float .f64 0, .string ⟨#[]⟩, .string ⟨#[]⟩, .slice none 0 0, .slice none 0 0, .slice none 0 0, .slice none 0 0] 46)).alloc (.cells M0 5)).alloc (.cells M1 4)).alloc (.cells M2 3)).alloc (.cells M3 3)) (.cells M4 3)
      simpa using h
    have b5 : (((((((w.alloc (.cells #[.int .u8 0, .bool false, .int .i64 0, .float .f64 0, .string ⟨#[]⟩, .string ⟨#[]⟩, .slice none 0 0, .slice none 0 0, .slice none 0 0, .slice none 0 0] 46)).alloc (.cells M0 5)).alloc (.cells M1 4)).alloc (.cells M2 3)).alloc (.cells M3 3)).alloc (.cells M4 3)).alloc (.cells M5 2)).heap[w.heap.size + 6]? = some (.cells M5 2 (0, 0)) := by
      have h := Go.Deep.blk_alloc_new ((((((w.alloc (.cells #[.int .u8 0, .bool false, .int .i64 0, .float .f64 0, .string ⟨#[]⟩, .string ⟨#[]⟩, .slice none 0 0, .slice none 0 0, .slice none 0 0, .slice none 0 0] 46)).alloc (.cells M0 5)).alloc (.cells M1 4)).alloc (.cells M2 3)).alloc (.cells M3 3)).alloc (.cells M4 3)) (.cells M5 2)
      simpa using h
    have b6 : ((((((((w.alloc (.cells #[.int .u8 0, .bool false, .int .i64 0, .float .f64 0, .string ⟨#[]⟩, .string ⟨#[]⟩, .slice none 0 0, .slice none 0 0, .slice none 0 0, .slice none 0 0] 46)).alloc (.cells M0 5)).alloc (.cells M1 4)).alloc (.cells M2 3)).alloc (.cells M3 3)).alloc (.cells M4 3)).alloc (.cells M5 2)).alloc (.cells M6 41)).heap[w.heap.size + 7]? = some (.cells M6 41 (0, 0)) := by
      have h := Go.Deep.blk_alloc_new (((((((w.alloc (.cells #[.int .u8 0, .bool false, .int .i64 0, .float .f64 0, .string ⟨#[]⟩, .string ⟨#[]⟩, .slice none 0 0, .slice none 0 0, .slice none 0 0, .slice none 0 0] 46)).alloc (.cells M0 5)).alloc (.cells M1 4)).alloc (.cells M2 3)).alloc (.cells M3 3)).alloc (.cells M4 3)).alloc (.cells M5 2)) (.cells M6 41)
      simpa using h
    have b7 : (((((((((w.alloc (.cells #[.int .u8 0, .bool false, .int .i64 0, .float .f64 0, .string ⟨#[]⟩, .string ⟨#[]⟩, .slice none 0 0, .slice none 0 0, .slice none 0 0, .slice none 0 0] 46)).alloc (.cells M0 5)).alloc (.cells M1 4)).alloc (.cells M2 3)).alloc (.cells M3 3)).alloc (.cells M4 3)).alloc (.cells M5 2)).alloc (.cells M6 41)).alloc (.cells M7 4)).heap[w.heap.size + 8]? = some (.cells M7 4 (0, 0)) := by
      have h := Go.Deep.blk_alloc_new ((((((((w.alloc (.cells #[.int .u8 0, .bool false, .int .i64 0, .float .f64 0, .string ⟨#[]⟩, .string ⟨#[]⟩, .slice none 0 0, .slice none 0 0, .slice none 0 0, .slice none 0 0] 46)).alloc (.cells M0 5)).alloc (.cells M1 4)).alloc (.cells M2 3)).alloc (.cells M3 3)).alloc (.cells M4 3)).alloc (.cells M5 2)).alloc (.cells M6 41)) (.cells M7 4)
      simpa using h
    exact ⟨⟨M0, (Go.Deep.blk_alloc_lt _ _ _ (by first | (simp; done) | (simp; omega))).trans ((Go.Deep.blk_alloc_lt _ _ _ (by first | (simp; done) | (simp; omega))).trans ((Go.Deep.blk_alloc_lt _ _ _ (by first | (simp; done) | (simp; omega))).trans ((Go.Deep.blk_alloc_lt _ _ _ (by first | (simp; done) | (simp; omega))).trans ((Go.Deep.blk_alloc_lt _ _ _ (by first | (simp; done) | (simp; omega))).trans ((Go.Deep.blk_alloc_lt _ _ _ (by first | (simp; done) | (simp; omega))).trans ((Go.Deep.blk_alloc_lt _ _ _ (by first | (simp; done) | (simp; omega))).trans (b0))))))), by simpa using hM0, fun i t hi => absurd hi (Nat.not_lt_zero _)⟩, ⟨M1, (Go.Deep.blk_alloc_lt _ _ _ (by first | (simp; done) | (simp; omega))).trans ((Go.Deep.blk_alloc_lt _ _ _ (by first | (simp; done) | (simp; omega))).trans ((Go.Deep.blk_alloc_lt _ _ _ (by first | (simp; done) | (simp; omega))).trans ((Go.Deep.blk_alloc_lt _ _ _ (by first | (simp; done) | (simp; omega))).trans ((Go.Deep.blk_alloc_lt _ _ _ (by first | (simp; done) | (simp; omega))).trans ((Go.Deep.blk_alloc_lt _ _ _ (by first | (simp; done) | (simp; omega))).trans (b1)))))), by simpa using hM1, fun i t hi => absurd hi (Nat.not_lt_zero _)⟩, ⟨M2, (Go.Deep.blk_alloc_lt _ _ _ (by first | (simp; done) | (simp; omega))).trans ((Go.Deep.blk_alloc_lt _ _ _ (by first | (simp; done) | (simp; omega))).trans ((Go.Deep.blk_alloc_lt _ _ _ (by first | (simp; done) | (simp; omega))).trans ((Go.Deep.blk_alloc_lt _ _ _ (by first | (simp; done) | (simp; omega))).trans ((Go.Deep.blk_alloc_lt _ _ _ (by first | (simp; done) | (simp; omega))).trans (b2))))), by simpa using hM2, fun i t hi => absurd hi (Nat.not_lt_zero _)⟩, ⟨M3, (Go.Deep.blk_alloc_lt _ _ _ (by first | (simp; done) | (simp; omega))).trans ((Go.Deep.blk_alloc_lt _ _ _ (by first | (simp; done) | (simp; omega))).trans ((Go.Deep.blk_alloc_lt _ _ _ (by first | (simp; done) | (simp; omega))).trans ((Go.Deep.blk_alloc_lt _ _ _ (by first | (simp; done) | (simp; omega))).trans (b3)))), by simpa using hM3, fun i t hi => absurd hi (Nat.not_lt_zero _)⟩, ⟨M4, (Go.Deep.blk_alloc_lt _ _ _ (by first | (simp; done) | (simp; omega))).trans ((Go.Deep.blk_alloc_lt _ _ _ (by first | (simp; done) | (simp; omega))).trans ((Go.Deep.blk_alloc_lt _ _ _ (by first | (simp; done) | (simp; omega))).trans (b4))), by simpa using hM4, fun i t hi => absurd hi (Nat.not_lt_zero _)⟩, ⟨M5, (Go.Deep.blk_alloc_lt _ _ _ (by first | (simp; done) | (simp; omega))).trans ((Go.Deep.blk_alloc_lt _ _ _ (by first | (simp; done) | (simp; omega))).trans (b5)), by simpa using hM5, fun i t hi => absurd hi (Nat.not_lt_zero _)⟩, ⟨M6, (Go.Deep.blk_alloc_lt _ _ _ (by first | (simp; done) | (simp; omega))).trans (b6), by simpa using hM6, fun i t hi => absurd hi (Nat.not_lt_zero _)⟩, ⟨M7, b7, by simpa using hM7, fun i t hi => absurd hi (Nat.not_lt_zero _)⟩, (Go.Deep.blk_alloc_lt _ _ _ (by first | (simp; done) | (simp; omega))).trans ((Go.Deep.blk_alloc_lt _ _ _ (by first | (simp; done) | (simp; omega))).trans ((Go.Deep.blk_alloc_lt _ _ _ (by first | (simp; done) | (simp; omega))).trans ((Go.Deep.blk_alloc_lt _ _ _ (by first | (simp; done) | (simp; omega))).trans ((Go.Deep.blk_alloc_lt _ _ _ (by first | (simp; done) | (simp; omega))).trans ((Go.Deep.blk_alloc_lt _ _ _ (by first | (simp; done) | (simp; omega))).trans ((Go.Deep.blk_alloc_lt _ _ _ (by first | (simp; done) | (simp; omega))).trans ((Go.Deep.blk_alloc_lt _ _ _ (by first | (simp; done) | (simp; omega))).trans (Go.Deep.blk_alloc_new _ _)))))))), by simp, ((((((((((Below.refl _ _).alloc (by first | (simp; done) | (simp; omega)) _).alloc (by first | (simp; done) | (simp; omega)) _).alloc (by first | (simp; done) | (simp; omega)) _).alloc (by first | (simp; done) | (simp; omega)) _).alloc (by first | (simp; done) | (simp; omega)) _).alloc (by first | (simp; done) | (simp; omega)) _).alloc (by first | (simp; done) | (simp; omega)) _).alloc (by first | (simp; done) | (simp; omega)) _).alloc (by first | (simp; done) | (simp; omega)) _)⟩
  clear hM0 hM1 hM2 hM3 hM4 hM5 hM6 hM7
  go_loopw [19] (fun iv wv => ∃ j : Nat, j ≤ n ∧ iv = .int .i64 (j : Int) ∧ Col toks 5 (w.heap.size + 1) n j (fun t => .int .u8 t.kind) wv ∧ Col toks 4 (w.heap.size + 2) n j (fun t => .bool t.attr) wv ∧ Col toks 3 (w.heap.size + 3) n j (fun t => .int .i64 t.count) wv ∧ Col toks 3 (w.heap.size + 4) n j (fun t => .int .i64 t.frm) wv ∧ Col toks 3 (w.heap.size + 5) n j (fun t => .int .i64 t.to) wv ∧ Col toks 2 (w.heap.size + 6) n j (fun t => .int .i64 t.integer) wv ∧ Col toks 41 (w.heap.size + 7) n j (fun t => .float .f64 t.double) wv ∧ Col toks 4 (w.heap.size + 8) n j (fun t => .bool t.boolean) wv ∧ wv.heap[w.heap.size]? = some (.cells #[.int .u8 0, .bool false, .int .i64 0, .float .f64 0, .string ⟨#[]⟩, .string ⟨#[]⟩, .slice none 0 0, .slice none 0 0, .slice none 0 0, .slice none 0 0] 46 (0, 0)) ∧ wv.heap.size = w.heap.size + 9 ∧ Below w.heap.size w wv) (fun iv _ => n - (intOf iv).toNat)
  case atStart => exact ⟨0, Nat.zero_le _, rfl, HST.out⟩
  case round =>
    clear HST
    obtain ⟨j, hj, rfl, c0, c1, c2, c3, c4, c5, c6, c7, hz, hsz, hbe⟩ := hrel
    by_cases hlt : j < n
    · obtain ⟨t, ht⟩ : ∃ t, toks[j]? = some t := ⟨toks[j]'(by rw [← HN.out]; exact hlt), List.getElem?_eq_getElem _⟩
      obtain ⟨d0, d1, d2, d3, d4, d5, d6, d7⟩ := (HROW.out.below hbe hgl).head ht
      rw [Nat.zero_add] at d0 d1 d2 d3 d4 d5 d6 d7
      obtain ⟨⟨o0, e0⟩, f0⟩ := c0.dst hlt
      have x0 : ¬ gL = w.heap.size + 1 := by omega
      obtain ⟨⟨o1, e1⟩, f1⟩ := c1.dst hlt
      have x1 : ¬ gL = w.heap.size + 2 := by omega
      obtain ⟨⟨o2, e2⟩, f2⟩ := c2.dst hlt
      have x2 : ¬ gL = w.heap.size + 3 := by omega
      obtain ⟨⟨o3, e3⟩, f3⟩ := c3.dst hlt
      have x3 : ¬ gL = w.heap.size + 4 := by omega
      obtain ⟨⟨o4, e4⟩, f4⟩ := c4.dst hlt
      have x4 : ¬ gL = w.heap.size + 5 := by omega
      obtain ⟨⟨o5, e5⟩, f5⟩ := c5.dst hlt
      have x5 : ¬ gL = w.heap.size + 6 := by omega
      obtain ⟨⟨o6, e6⟩, f6⟩ := c6.dst hlt
      have x6 : ¬ gL = w.heap.size + 7 := by omega
      obtain ⟨⟨o7, e7⟩, f7⟩ := c7.dst hlt
      have x7 : ¬ gL = w.heap.size + 8 := by omega
      have HC := hide (show Col toks 5 (w.heap.size + 1) n j (fun t => .int .u8 t.kind) wr ∧ Col toks 4 (w.heap.size + 2) n j (fun t => .bool t.attr) wr ∧ Col toks 3 (w.heap.size + 3) n j (fun t => .int .i64 t.count) wr ∧ Col toks 3 (w.heap.size + 4) n j (fun t => .int .i64 t.frm) wr ∧ Col toks 3 (w.heap.size + 5) n j (fun t => .int .i64 t.to) wr ∧ Col toks 2 (w.heap.size + 6) n j (fun t => .int .i64 t.integer) wr ∧ Col toks 41 (w.heap.size + 7) n j (fun t => .float .f64 t.double) wr ∧ Col toks 4 (w.heap.size + 8) n j (fun t => .bool t.boolean) wr ∧ True from ⟨c0, c1, c2, c3, c4, c5, c6, c7, trivial⟩)
      have HZ := hide hz
      have HSZ := hide hsz
      have HBE := hide hbe
      have HT := hide ht
      have hjn : (j : Int) < n := by omega
      clear c0 c1 c2 c3 c4 c5 c6 c7 hz hsz hbe ht
      go_upto_block 1 with fail
      go_cut [] from 38 to 106 (fun wx => Col toks 5 (w.heap.size + 1) n (j + 1) (fun t => .int .u8 t.kind) wx ∧ Col toks 4 (w.heap.size + 2) n (j + 1) (fun t => .bool t.attr) wx ∧ Col toks 3 (w.heap.size + 3) n (j + 1) (fun t => .int .i64 t.count) wx ∧ Col toks 3 (w.heap.size + 4) n (j + 1) (fun t => .int .i64 t.frm) wx ∧ Col toks 3 (w.heap.size + 5) n (j + 1) (fun t => .int .i64 t.to) wx ∧ Col toks 2 (w.heap.size + 6) n (j + 1) (fun t => .int .i64 t.integer) wx ∧ Col toks 41 (w.heap.size + 7) n (j + 1) (fun t => .float .f64 t.double) wx ∧ Col toks 4 (w.heap.size + 8) n (j + 1) (fun t => .bool t.boolean) wx ∧ wx.heap[w.heap.size]? = some (.cells #[.int .u8 0, .bool false, .int .i64 0, .float .f64 0, .string ⟨#[]⟩, .string ⟨#[]⟩, .slice none 0 0, .slice none 0 0, .slice none 0 0, .slice none 0 0] 46 (0, 0)) ∧ wx.heap.size = w.heap.size + 9 ∧ Below w.heap.size w wx)
      case first =>
        go_wp2_with fail
        go_meet
        case rel => exact ⟨((((((((HC.out.1).set hlt HT.out).other (b := w.heap.size + 2) (by omega)).other (b := w.heap.size + 3) (by omega)).other (b := w.heap.size + 4) (by omega)).other (b := w.heap.size + 5) (by omega)).other (b := w.heap.size + 6) (by omega)).other (b := w.heap.size + 7) (by omega)).other (b := w.heap.size + 8) (by omega), ((((((((HC.out.2.1).other (b := w.heap.size + 1) (by omega)).set hlt HT.out).other (b := w.heap.size + 3) (by omega)).other (b := w.heap.size + 4) (by omega)).other (b := w.heap.size + 5) (by omega)).other (b := w.heap.size + 6) (by omega)).other (b := w.heap.size + 7) (by omega)).other (b := w.heap.size + 8) (by omega), ((((((((HC.out.2.2.1).other (b := w.heap.size + 1) (by omega)).other (b := w.heap.size + 2) (by omega)).set hlt HT.out).other (b := w.heap.size + 4) (by omega)).other (b := w.heap.size + 5) (by omega)).other (b := w.heap.size + 6) (by omega)).other (b := w.heap.size + 7) (by omega)).other (b := w.heap.size + 8) (by omega), ((((((((HC.out.2.2.2.1).other (b := w.heap.size + 1) (by omega)).other (b := w.heap.size + 2) (by omega)).other (b := w.heap.size + 3) (by omega)).set hlt HT.out).other (b := w.heap.size + 5) (by omega)).other (b := w.heap.size + 6) (by omega)).other (b := w.heap.size + 7) (by omega)).other (b := w.heap.size + 8) (by omega), ((((((((HC.out.2.2.2.2.1).other (b := w.heap.size + 1) (by omega)).other (b := w.heap.size + 2) (by omega)).other (b := w.heap.size + 3) (by omega)).other (b := w.heap.size + 4) (by omega)).set hlt HT.out).other (b := w.heap.size + 6) (by omega)).other (b := w.heap.size + 7) (by omega)).other (b := w.heap.size + 8) (by omega), ((((((((HC.out.2.2.2.2.2.1).other (b := w.heap.size + 1) (by omega)).other (b := w.heap.size + 2) (by omega)).other (b := w.heap.size + 3) (by omega)).other (b := w.heap.size + 4) (by omega)).other (b := w.heap.size + 5) (by omega)).set hlt HT.out).other (b := w.heap.size + 7) (by omega)).other (b := w.heap.size + 8) (by omega), ((((((((HC.out.2.2.2.2.2.2.1).other (b := w.heap.size + 1) (by omega)).other (b := w.heap.size + 2) (by omega)).other (b := w.heap.size + 3) (by omega)).other (b := w.heap.size + 4) (by omega)).other (b := w.heap.size + 5) (by omega)).other (b := w.heap.size + 6) (by omega)).set hlt HT.out).other (b := w.heap.size + 8) (by omega), ((((((((HC.out.2.2.2.2.2.2.2.1).other (b := w.heap.size + 1) (by omega)).other (b := w.heap.size + 2) (by omega)).other (b := w.heap.size + 3) (by omega)).other (b := w.heap.size + 4) (by omega)).other (b := w.heap.size + 5) (by omega)).other (b := w.heap.size + 6) (by omega)).other (b := w.heap.size + 7) (by omega)).set hlt HT.out, heap_set_other (b := w.heap.size + 8) (by omega) (heap_set_other (b := w.heap.size + 7) (by omega) (heap_set_other (b := w.heap.size + 6) (by omega) (heap_set_other (b := w.heap.size + 5) (by omega) (heap_set_other (b := w.heap.size + 4) (by omega) (heap_set_other (b := w.heap.size + 3) (by omega) (heap_set_other (b := w.heap.size + 2) (by omega) (heap_set_other (b := w.heap.size + 1) (by omega) (HZ.out)))))))), by simpa using HSZ.out, below_cell (b := w.heap.size + 8) (below_cell (b := w.heap.size + 7) (below_cell (b := w.heap.size + 6) (below_cell (b := w.heap.size + 5) (below_cell (b := w.heap.size + 4) (below_cell (b := w.heap.size + 3) (below_cell (b := w.heap.size + 2) (below_cell (b := w.heap.size + 1) (HBE.out) (Nat.le_add_right _ _)) (Nat.le_add_right _ _)) (Nat.le_add_right _ _)) (Nat.le_add_right _ _)) (Nat.le_add_right _ _)) (Nat.le_add_right _ _)) (Nat.le_add_right _ _)) (Nat.le_add_right _ _)⟩
      case rest =>
        have HH := hide hcut
        clear hcut d0 d1 d2 d3 d4 d5 d6 d7 e0 e1 e2 e3 e4 e5 e6 e7 f0 f1 f2 f3 f4 f5 f6 f7 HC HZ HSZ HBE
        go_wp2_with fail
        go_roundw
        case rel => exact ⟨j + 1, by omega, by go_num, HH.out⟩
        case measure => simp [intOf]; omega
    · obtain rfl : j = n := by omega
      have hil : ∀ i t, toks[i]? = some t → i < j := fun i t h => by rw [HN.out]; exact (List.getElem?_eq_some_iff.1 h).1
      have HCO : Hid (Cols wr (w.heap.size + 1) (w.heap.size + 2) (w.heap.size + 3) (w.heap.size + 4) (w.heap.size + 5) (w.heap.size + 6) (w.heap.size + 7) (w.heap.size + 8) toks) := ⟨fun i t h => c0.cell (hil i t h) h, fun i t h => c1.cell (hil i t h) h, fun i t h => c2.cell (hil i t h) h, fun i t h => c3.cell (hil i t h) h, fun i t h => c4.cell (hil i t h) h, fun i t h => c5.cell (hil i t h) h, fun i t h => c6.cell (hil i t h) h, fun i t h => c7.cell (hil i t h) h, by rw [hsz]; omega, by rw [hsz]; omega, by rw [hsz]; omega, by rw [hsz]; omega, by rw [hsz]; omega, by rw [hsz]; omega, by rw [hsz]; omega, by rw [hsz]; omega⟩
      have hra := HRW.out.keeps (fun k hk => hbe.block k hk) hbe.size
      obtain ⟨ra, hra2⟩ := hra.slice
      have HZB := hide (zzb_any (w.heap.size + 1) (w.heap.size + 2) (w.heap.size + 3) (w.heap.size + 4) (w.heap.size + 5) (w.heap.size + 6) (w.heap.size + 7) (w.heap.size + 8) toks r rl rawV wire keep wr HCO.out hra HWI.out HWF.out (by rw [← HN.out]; exact hn) hrl HEX.out)
      rw [← HN.out] at HZB
      have HZ := hide hz
      have HSZ := hide hsz
      have HBE := hide hbe
      clear c0 c1 c2 c3 c4 c5 c6 c7 hz hsz hbe hra hil HCO hra2
      go_wp2_with fail
      refine (HZB.out).mono ?_
      rintro e w1 ⟨cs, lo, hi, rfl, hv1, hh1, hb1, hlo⟩
      obtain ⟨k1, b1, n1, x1, s1, m1, p1, q1, r1, p2, q2, r2, p3, q3, r3, hcc⟩ := hv1.cells
      subst hcc
      have hsz := HSZ.out
      have hz : w1.heap[w.heap.size]? = some (.cells #[.int .u8 0, .bool false, .int .i64 0, .float .f64 0, .string ⟨#[]⟩, .string ⟨#[]⟩, .slice none 0 0, .slice none 0 0, .slice none 0 0, .slice none 0 0] 46 (0, 0)) := (hb1.block _ (by omega)).trans HZ.out
      have HTH : Hid (w1.there w.heap.size 0 10) := fun i hi => by
        rw [Nat.zero_add, blk_cell hz i, blk_frozen hz i]
        exact ⟨by rw [Array.getElem?_eq_getElem (by simpa using hi)]; rfl, rfl⟩
      have HBA : Hid ((w1.setCells w.heap.size 0 [.int .u8 k1, .bool b1, .int .i64 n1, .float .f64 x1, .string s1, .string m1, .slice p1 q1 r1, .slice p2 q2 r2, .slice none 0 0, .slice p3 q3 r3]).heap[w.heap.size]? = some (.cells [.int .u8 k1, .bool b1, .int .i64 n1, .float .f64 x1, .string s1, .string m1, .slice p1 q1 r1, .slice p2 q2 r2, .slice none 0 0, .slice p3 q3 r3].toArray 46 (0, 0))) := blk_setAll (w := w1) (t := 46) (c := #[.int .u8 0, .bool false, .int .i64 0, .float .f64 0, .string ⟨#[]⟩, .string ⟨#[]⟩, .slice none 0 0, .slice none 0 0, .slice none 0 0, .slice none 0 0]) hz (by rfl)
      have HFI : Hid (VT rl.length (strOfNums rl) keep j lo hi (w1.setCells w.heap.size 0 [.int .u8 k1, .bool b1, .int .i64 n1, .float .f64 x1, .string s1, .string m1, .slice p1 q1 r1, .slice p2 q2 r2, .slice none 0 0, .slice p3 q3 r3]) [.int .u8 k1, .bool b1, .int .i64 n1, .float .f64 x1, .string s1, .string m1, .slice p1 q1 r1, .slice p2 q2 r2, .slice none 0 0, .slice p3 q3 r3] toks ∧ hi ≤ (w1.setCells w.heap.size 0 [.int .u8 k1, .bool b1, .int .i64 n1, .float .f64 x1, .string s1, .string m1, .slice p1 q1 r1, .slice p2 q2 r2, .slice none 0 0, .slice p3 q3 r3]).heap.size ∧ Below w.heap.size w (w1.setCells w.heap.size 0 [.int .u8 k1, .bool b1, .int .i64 n1, .float .f64 x1, .string s1, .string m1, .slice p1 q1 r1, .slice p2 q2 r2, .slice none 0 0, .slice p3 q3 r3])) := by
        refine ⟨hv1.stays _ (Nat.le_refl _) (Nat.le_refl _) (fun g h1 h2 => heap_setCells_other _ _ _ _ _ (by omega)), by rw [size_setCells]; exact hh1, below_set (HBE.out.trans (below_less hb1 (by omega))) (Nat.le_refl _)⟩
      clear hv1 hh1 hb1 hz hlo HZB HZ HSZ HBE hsz
      go_wp2_with (refine wpl_store rfl 46 (.tmp 8) (.tmp 119) rfl w.heap.size 0 [.int .u8 k1, .bool b1, .int .i64 n1, .float .f64 x1, .string s1, .string m1, .slice p1 q1 r1, .slice p2 q2 r2, .slice none 0 0, .slice p3 q3 r3] (by rfl) (by rfl) (by exact HTH.out) (by kernel_rfl) (by rfl) ?_)
      refine bodyPost_ret (results_cell_slot rfl _ _ w.heap.size 46 _ _ _ ?_ HBA.out Try.underlying46 rfl ?_) rfl ?_
      · rfl
      · kernel_rfl
      exact ⟨_, _, _, rfl, HFI.out⟩

end Go.Proofs.Qxb6601678a.Bv
