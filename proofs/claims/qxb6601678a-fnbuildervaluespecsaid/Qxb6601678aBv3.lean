/-
  THE BUILDER: what it holds; (*builder).text.
-/
import Derived.Test.Qxb6601678aBv0
import Derived.Test.Qxb6601678aBv2
import Derived.Laws.BytesArg
import Derived.Lib.PathFns
namespace Go.Proofs.Qxb6601678a.Bv
open Go.RowKit Go.ChangeShapes Go.WideShapes Go.ChangeAt
set_option linter.unusedVariables false
set_option maxRecDepth 100000

attribute [local go_sem] run_store_float

/-- the bytes of raw lie there -/
def RawSl (w : World) (rawV : Value) (rl : List Int) : Prop :=
  (rawV = .slice none 0 0 ∧ rl = []) ∨ ∃ g, rawV = .slice (some ⟨g, 0, none⟩) rl.length rl.length ∧ g < w.heap.size ∧ ∀ i, i < rl.length → w.cell? ⟨g, i, none⟩ = some (.int .u8 (rl.getD i 0))

theorem RawSl.txt {w : World} {rawV : Value} {rl : List Int} (h : RawSl w rawV rl) : (convert 22 9 rawV).run Try.prog w = .ok (.string (strOfNums rl)) w := by
  rcases h with ⟨rfl, rfl⟩ | ⟨g, rfl, hg, hc⟩
  · exact run_convert_bytes_nil w 22 5 Try.underlying22 Try.underlying5 0 0 9 Try.underlying9
  · exact run_convert_bytes_arg w 22 5 Try.underlying22 Try.underlying5 g 0 rl.length rl.length rl rfl (fun i hi => by rw [Nat.zero_add]; exact hc i hi) 9 Try.underlying9

theorem RawSl.slice {w : World} {rawV : Value} {rl : List Int} (h : RawSl w rawV rl) : ∃ a, rawV = .slice a rl.length rl.length := by
  rcases h with ⟨rfl, rfl⟩ | ⟨g, rfl, hg, hc⟩
  · exact ⟨_, rfl⟩
  · exact ⟨_, rfl⟩

theorem RawSl.keeps {w w' : World} {rawV : Value} {rl : List Int} (h : RawSl w rawV rl) (hk : ∀ k, k < w.heap.size → w'.heap[k]? = w.heap[k]?) (hs : w.heap.size ≤ w'.heap.size) : RawSl w' rawV rl := by
  rcases h with h | ⟨g, h1, h2, h3⟩
  · exact .inl h
  · refine .inr ⟨g, h1, Nat.lt_of_lt_of_le h2 hs, fun i hi => ?_⟩
    rw [World.cell?_of_block (w := w) (a := ⟨g, i, none⟩) (hk g h2)]
    exact h3 i hi

/-- the builder's block -/
def Bld (w : World) (pb : Nat) (tv rawV : Value) (raw : ByteArray) (keep : Bool) : Prop :=
  ∃ wv : ByteArray, (wv = ByteArray.empty ∨ wv = raw) ∧ w.heap[pb]? = some (.cells #[tv, rawV, .string wv, .bool keep] 74 (0, 0))

theorem blk_cell {w : World} {b : Nat} {c : Array Value} {t : TypeId} (h : w.heap[b]? = some (.cells c t (0, 0))) (i : Nat) : w.cell? ⟨b, i, none⟩ = c[i]? := by
  simp [World.cell?, h]

theorem blk_frozen {w : World} {b : Nat} {c : Array Value} {t : TypeId} (h : w.heap[b]? = some (.cells c t (0, 0))) (i : Nat) : w.frozen? ⟨b, i, none⟩ = false := by
  simp [World.frozen?, h]

theorem blk_lt {w : World} {b : Nat} {o : Obj} (h : w.heap[b]? = some o) : b < w.heap.size := (Array.getElem?_eq_some_iff.1 h).1

theorem blk_set {w : World} {b : Nat} {c : Array Value} {t : TypeId} (h : w.heap[b]? = some (.cells c t (0, 0))) (i : Nat) (v : Value) : (w.setCell ⟨b, i, none⟩ v).heap[b]? = some (.cells (c.setIfInBounds i v) t (0, 0)) := by
  simp [World.setCell, Array.getElem?_modify, h]

/-- of what was there only block b may have turned -/
theorem grown_alloc_set {w : World} {b : Nat} {o : Obj} {i : Nat} {v : Value} (hb : b < w.heap.size) : w.grownBy ((w.alloc o).setCell ⟨b, i, none⟩ v) (some b) :=
  ⟨rfl, rfl, rfl, by simp, fun k hk hne => by
    rw [Go.Deep.blk_setCell_other _ _ _ _ (fun e => hne (by simp [e])), Go.Deep.blk_alloc_lt _ _ _ hk]⟩

theorem grown_set_alloc {w : World} {b : Nat} {o : Obj} {i : Nat} {v : Value} : w.grownBy ((w.setCell ⟨b, i, none⟩ v).alloc o) (some b) :=
  ⟨rfl, rfl, rfl, by simp, fun k hk hne => by
    rw [Go.Deep.blk_alloc_lt _ _ _ (by simpa using hk), Go.Deep.blk_setCell_other _ _ _ _ (fun e => hne (by simp [e]))]⟩

theorem grown_drewN {w w' : World} {row : Option Nat} {n : Nat} (h : w.grownBy w' row) : w.grownBy (w'.drewN n) row := ⟨h.os, h.tape, h.output, h.size, h.block⟩

theorem text_any (pb : Nat) (tv rawV : Value) (rl : List Int) (keep : Bool) (f o : Int) (w : World) (hb : Bld w pb tv rawV (strOfNums rl) keep) (hr : RawSl w rawV rl) (hl : rl.length ≤ 1048576) (h0 : 0 ≤ f) (h1 : f ≤ o) (h2 : o ≤ rl.length) :
    Calls Try.prog 41 #[.pointer (some ⟨pb, 0, none⟩), .agg #[.int .i64 f, .int .i64 o]] w fun e w' => e = .returned (.string ((strOfNums rl).extract f.toNat o.toNat)) ∧ Bld w' pb tv rawV (strOfNums rl) keep ∧ w.grownBy w' (some pb) := by
  obtain ⟨wv, hw, hblk⟩ := hb
  have hsz : (strOfNums rl).size = rl.length := strOfNums_size rl
  have hlt := blk_lt hblk
  have hr' : RawSl (w.alloc (.cells #[.int .i64 f, .int .i64 o] 69)) rawV rl := hr.keeps (fun k hk => Go.Deep.blk_alloc_lt _ _ _ hk) (by simp)
  have hcv := hr'.txt
  have hblk1 : (w.alloc (.cells #[.int .i64 f, .int .i64 o] 69)).heap[pb]? = some (.cells #[tv, rawV, .string wv, .bool keep] 74 (0, 0)) := by rw [Go.Deep.blk_alloc_lt _ _ _ hlt]; exact hblk
  obtain ⟨ra, hra⟩ := hr.slice
  subst hra
  have c1 : (w.alloc (.cells #[.int .i64 f, .int .i64 o] 69)).cell? ⟨pb, 1, none⟩ = some (.slice ra rl.length rl.length) := by rw [blk_cell hblk1]; rfl
  have c2 : (w.alloc (.cells #[.int .i64 f, .int .i64 o] 69)).cell? ⟨pb, 2, none⟩ = some (.string wv) := by rw [blk_cell hblk1]; rfl
  have f2 : (w.alloc (.cells #[.int .i64 f, .int .i64 o] 69)).frozen? ⟨pb, 2, none⟩ = false := blk_frozen hblk1 2
  obtain ⟨A, rfl⟩ : ∃ A : Nat, f = A := ⟨f.toNat, by omega⟩
  obtain ⟨O, rfl⟩ : ∃ O : Nat, o = O := ⟨o.toNat, by omega⟩
  rcases hem : wv.toList.isEmpty with _ | _
  · have hwr : wv = strOfNums rl := by
      rcases hw with h | h
      · rw [h] at hem; simp at hem
      · exact h
    have hwz : wv.size = rl.length := by rw [hwr]; exact hsz
    have HW := hide hwr
    have HZ := hide hwz
    have z1 : wv.size ≤ rl.length := by omega
    have z2 : rl.length ≤ wv.size := by omega
    clear hw hwr hwz hr hr' hcv hsz
    go_enter Try.func41, Try.ntmps41
    go_wp2
    go_quiet (fail)
    go_wp2
    go_ret
    refine ⟨?_, ⟨wv, .inr HW.out, hblk1⟩, ⟨rfl, rfl, rfl, by simp, fun k hk _ => Go.Deep.blk_alloc_lt _ _ _ hk⟩⟩
    rw [← HW.out]
    rfl
  · have hwe : wv = ByteArray.empty ∨ wv = strOfNums rl := hw
    have HS : Hid ((strOfNums rl).size = rl.length) := hsz
    have z1 : (strOfNums rl).size ≤ rl.length := by omega
    have z2 : rl.length ≤ (strOfNums rl).size := by omega
    have hb2 : ((w.setCell ⟨pb, 2, none⟩ (.string (strOfNums rl))).alloc (.cells #[.int .i64 A, .int .i64 O] 69)).heap[pb]? = some (.cells (#[tv, .slice ra rl.length rl.length, .string wv, .bool keep].setIfInBounds 2 (.string (strOfNums rl))) 74 (0, 0)) := by
      rw [Go.Deep.blk_alloc_lt _ _ _ (by simp; exact hlt)]
      exact blk_set hblk 2 _
    have c3 : ((w.setCell ⟨pb, 2, none⟩ (.string (strOfNums rl))).alloc (.cells #[.int .i64 A, .int .i64 O] 69)).cell? ⟨pb, 2, none⟩ = some (.string (strOfNums rl)) := by rw [blk_cell hb2]; rfl
    have HB2 := hide hb2
    clear hw hwe hr hr' hsz hb2
    generalize strOfNums rl = raw at *
    go_enter Try.func41, Try.ntmps41
    go_wp2
    go_quiet (fail)
    go_wp2
    go_ret
    exact ⟨rfl, ⟨raw, .inr rfl, HB2.out⟩, grown_drewN grown_set_alloc⟩

/-! ### the builder's tokens -/

/-- the last m of n tokens, as the builder holds them -/
def tsv (gT n m : Nat) : Value := if m = 0 then .slice (some ⟨gT, (n - 1) * 8, none⟩) 0 0 else .slice (some ⟨gT, (n - m) * 8, none⟩) m m

theorem tsv_pos {gT n m : Nat} (h : m ≠ 0) : tsv gT n m = .slice (some ⟨gT, (n - m) * 8, none⟩) m m := by rw [tsv, if_neg h]

/-- ts is a tail of toks -/
def Suf (toks ts : List Tok) : Prop := ∃ p, toks = p ++ ts

theorem Suf.at {toks ts : List Tok} {t : Tok} (h : Suf toks (t :: ts)) : toks[toks.length - (ts.length + 1)]? = some t := by
  obtain ⟨p, rfl⟩ := h
  simp

theorem Suf.le {toks ts : List Tok} (h : Suf toks ts) : ts.length ≤ toks.length := by
  obtain ⟨p, rfl⟩ := h
  simp

theorem Suf.tail {toks ts : List Tok} {t : Tok} (h : Suf toks (t :: ts)) : Suf toks ts := by
  obtain ⟨p, rfl⟩ := h
  exact ⟨p ++ [t], by simp⟩

theorem Suf.ext {R : Nat} {toks ts r : List Tok} {n : Nat} (h : Suf toks ts) (he : ext R ts n = some r) : Suf toks r := by
  obtain ⟨p, rfl⟩ := h
  obtain ⟨q, rfl⟩ := ext_tail _ _ _ he
  exact ⟨p ++ q, by simp⟩

theorem Suf.drop {toks ts : List Tok} (h : Suf toks ts) : toks.drop (toks.length - ts.length) = ts := by
  obtain ⟨p, rfl⟩ := h
  simp

end Go.Proofs.Qxb6601678a.Bv
