/-
  cloneToks, cloneBytes.
-/
import Derived.Test.Qxb6601678aBv6
import Derived.Deep.CutBlock
namespace Go.Proofs.Qxb6601678a.Bv
open Go.RowKit Go.ChangeShapes Go.WideShapes Go.ChangeAt
set_option linter.unusedVariables false
set_option maxRecDepth 100000

attribute [local go_sem] run_store_float

theorem info55 : (Try.prog.info? 55).map (fun i => (i.zero, i.size, i.bytes)) = some (some (.agg #[.int .u8 0, .bool false, .int .i64 0, .int .i64 0, .int .i64 0, .int .i64 0, .float .f64 0, .bool false]), 8, 56) := by kernel_rfl

def VTok (toks : List Tok) (_ : World) (_ _ i : Nat) (c : List Value) : Prop := ∃ t, toks[i]? = some t ∧ c = tokCells t

theorem heldTok (toks : List Tok) : Held (VTok toks) := fun _ _ _ _ _ _ _ _ h _ _ _ => h

theorem RowI.toks {toks : List Tok} {e : TypeId} {g : Nat} {w : World} (h : RowI (VTok toks) e g 8 toks.length toks.length w) : TokRow w g 0 toks := by
  obtain ⟨M, h1, h2, h3⟩ := h
  intro i t hi j u hu
  obtain ⟨c, l, h', b1, b2, b3, b4, t', b5, b6⟩ := h3 i (List.getElem?_eq_some_iff.1 hi).1
  rw [hi] at b5
  cases b5
  subst b6
  rw [Nat.zero_add, blk_cell h1]
  exact b2 j u hu

set_option maxHeartbeats 1000000 in
theorem cloneToks_row (b off cap : Nat) (toks : List Tok) (w : World) (hnn : toks.length ≤ 32768) (hb : b < w.heap.size) (hrow : TokRow w b off toks) :
    Calls Try.prog 26 #[.slice (some ⟨b, off, none⟩) toks.length cap] w fun e w' => e = .returned (.slice (some ⟨w.heap.size, 0, none⟩) toks.length toks.length) ∧ TokRow w' w.heap.size 0 toks ∧ w.heap.size < w'.heap.size ∧ Below w.heap.size w w' := by
  have hq := fun w => Lib.run_eql_slice_nil (P := Try.prog) w 36 55 (some ⟨b, off, none⟩) toks.length cap 0 0 Try.underlying36
  have HROW := hide hrow
  obtain ⟨n, hn⟩ : ∃ n, n = toks.length := ⟨_, rfl⟩
  rw [← hn] at hq hnn ⊢
  have HN := hide hn
  clear hrow hn
  go_enter Try.func26, Try.ntmps26
  go_wp2_with (refine wpl_make rfl 36 55 (.tmp 8) rfl _ 8 56 Try.underlying36 info55 n (by rfl) (by omega) (by omega) ?_)
  intro M hM
  clear hq
  go_wp2_with fail
  go_loopw [4] (fun i wr => ∃ k : Nat, k ≤ n ∧ i = .int .i64 k ∧ RowI (VTok toks) 55 w.heap.size 8 n k wr ∧ Below w.heap.size w wr) (fun i _ => n - (intOf i).toNat)
  case atStart => exact ⟨0, Nat.zero_le _, rfl, ⟨M, Go.Deep.blk_alloc_new _ _, hM, fun i hi => absurd hi (Nat.not_lt_zero _)⟩, (Below.refl _ _).alloc (Nat.le_refl _) _⟩
  case round =>
    obtain ⟨k, hk, rfl, hrw, hbel⟩ := hrel
    by_cases hlt : k < n
    · obtain ⟨t, ht⟩ : ∃ t, toks[k]? = some t := ⟨toks[k]'(by rw [← HN.out]; exact hlt), List.getElem?_eq_getElem _⟩
      have HRG : Hid (wr.rangeAt b (off + k * 8) (tokCells t)) := fun j v hv => (HROW.out.below hbel hb) k t ht j v hv
      have HTH : Hid (wr.there w.heap.size (k * 8) 8) := hrw.there (pb := b) hlt hb (World.grownBy.refl _ _)
      have HNX : Hid (RowI (VTok toks) 55 w.heap.size 8 n (k + 1) (wr.setCells w.heap.size (k * 8) (tokCells t))) := hrw.next (pb := b) (heldTok toks) hlt hb (World.grownBy.refl _ _) rfl ⟨t, ht, rfl⟩
      have HBE := hide hbel
      clear hrw hbel ht
      go_upto_block 1 with fail
      go_cut [] from 10 to 22 (fun wx => wx = wr.setCells w.heap.size (k * 8) (tokCells t))
      case first =>
        go_wp2_with (first | (refine wpList_load_mid rfl 55 (.tmp 20) rfl b (off + k * 8) (by rfl) (tokCells t) _ (by exact HRG.out) Try.underlying55 (by rfl) (by kernel_rfl) ?_) | (refine wpl_store rfl 55 (.tmp 22) (.tmp 21) rfl w.heap.size (k * 8) (tokCells t) (by rfl) (by rfl) (by exact HTH.out) (by kernel_rfl) (by rfl) ?_))
        go_meet
        case rel => rfl
      case rest =>
        subst hcut
        go_wp2_with fail
        go_roundw
        case rel => exact ⟨k + 1, by omega, by go_num, HNX.out, ⟨(rest_setCells _ _ _ _).1.trans HBE.out.os, (rest_setCells _ _ _ _).2.1.trans HBE.out.tape, (rest_setCells _ _ _ _).2.2.trans HBE.out.output, by rw [size_setCells]; exact HBE.out.size, fun q hq => by rw [heap_setCells_other _ _ _ _ _ (by omega)]; exact HBE.out.block q hq⟩⟩
        case measure => simp [intOf]; omega
    · obtain rfl : k = n := by omega
      have HRW := hide hrw
      have HBE := hide hbel
      clear hrw hbel
      go_wp2_with fail
      go_ret
      have h := HRW.out
      obtain ⟨M', hM', _⟩ := h
      have hs := blk_lt hM'
      have h := HRW.out
      rw [HN.out] at h
      exact ⟨rfl, h.toks, hs, HBE.out⟩

/-! ### cloneBytes: the copy is the builder's raw -/
theorem cloneRaw_any (a : Option Addr) (len cap : Nat) (zs : List Int) (w : World) (h : Came .u8 w a len cap zs) (hm : len ≤ 1048576) :
    Calls Try.prog 11 #[.slice a len cap] w fun e w' => ∃ v, e = .returned v ∧ RawSl w' v (zs.take len) ∧ (∀ g, v.ownBlock = some g → g = w.heap.size) ∧ Below w.heap.size w w' := by
  by_cases h0 : 0 < len
  · have hl := h.take_length
    refine (clone_pos a len cap zs w h hm h0).mono ?_
    rintro e w' ⟨rfl, hsz, hrow, hb⟩
    refine ⟨_, rfl, .inr ⟨w.heap.size, by rw [hl], by omega, fun i hi => ?_⟩, fun g hg => by simpa [Value.ownBlock] using hg.symm, hb⟩
    rw [hrow.cell (by omega)]
  · obtain rfl : len = 0 := by omega
    rcases h with ⟨rfl, _, rfl, rfl⟩ | ⟨x, rfl, hl, hcm, hz, hc, hwf⟩
    · refine (clone_nil w).mono ?_
      rintro e w' ⟨rfl, rfl⟩
      exact ⟨_, rfl, .inl ⟨rfl, rfl⟩, fun g hg => (by cases hg), Below.refl _ _⟩
    · have hq := fun w => Lib.run_eql_slice_nil (P := Try.prog) w 22 5 (some x) 0 cap 0 0 Try.underlying22
      have hmk : ∀ w, (Instr.makeSlice 22 (.int .i64 0) (.int .i64 0)).run Try.prog w = .ok (.slice (some ⟨w.heap.size, 0, none⟩) 0 0) (w.alloc (.cells (madeCells #[.int .u8 0] 0) 5)) := fun w => run_make_row' (P := Try.prog) 22 5 (.int .u8 0) 1 Try.underlying22 Try.info5 rfl .i64 .i64 0 (by omega) (by omega) w
      clear hc hwf
      go_enter Try.func11, Try.ntmps11
      go_wp2
      refine wp_loop_rounds 1 ?_
      rw [rounds_succ]
      go_wp2
      go_ret
      exact ⟨_, rfl, .inr ⟨w.heap.size, rfl, by simp, fun i hi => absurd hi (by simp)⟩, fun g hg => by simpa [Value.ownBlock] using hg.symm, (Below.refl _ _).alloc (Nat.le_refl _) _⟩

end Go.Proofs.Qxb6601678a.Bv
