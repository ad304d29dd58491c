/-
  THE WALK OF FnParseDigitsLeadingZero.
-/
import Derived.Test.Qxb6601678aPd1
namespace Go.Proofs.Qxb6601678a
open Go.RowKit Go.ChangeShapes Go.WideShapes Go.ChangeAt
set_option linter.unusedVariables false

/-- what 'make' and the first store have laid -/
theorem rowIs_made_set (w : World) (v z : Value) (n : Nat) (t : TypeId) : (w.alloc (.cells ((madeCells #[z] n).setIfInBounds 0 v) t)).rowIs w.heap.size t n (fun i => if i = 0 then v else z) := by
  refine ⟨_, Go.Deep.blk_alloc_new _ _, by simp [size_madeCells], fun i hi => ?_⟩
  rw [Array.getElem?_setIfInBounds]
  by_cases e : i = 0
  · subst e
    simp [size_madeCells, hi]
  · rw [if_neg (fun h => e h.symm)]
    show _ = some (if i = 0 then v else z)
    rw [if_neg e]
    simp [madeCells, hi, Nat.mod_one]

theorem made0 (n : Nat) (h : 0 < n) : (madeCells #[Value.int .u8 0] n)[0]? = some (.int .u8 0) := by
  simp [madeCells, h]

theorem lz_long (a0 : Option Addr) (len0 cap0 : Nat) (a1 : Int) (w : World) (hm : len0 ≤ maxLen) (hl : ¬ len0 ≤ 1048576) :
    Calls Try.prog 4 #[.slice a0 len0 cap0, .int .u64 a1] w fun e w' => e = .returned (.bool true) ∧ Below w.heap.size w w' := by
  have hd : decide (len0 ≤ 1048576) = false := decide_eq_false hl
  go_enter Try.func4, Try.ntmps4
  go_wp2_with (go_at_call 18; refine (zzBytes18 _ _ _ _ _ hm).mono ?_; rintro e w' ⟨rfl, rfl⟩)
  go_ret
  exact ⟨rfl, Below.refl _ _⟩

set_option maxHeartbeats 1000000 in
theorem lz_empty (a0 : Option Addr) (cap0 : Nat) (z0 : List Int) (a1 : Int) (w : World) (h : Came .u8 w a0 0 cap0 z0) :
    Calls Try.prog 4 #[.slice a0 0 cap0, .int .u64 a1] w fun e w' => e = .returned (.bool true) ∧ Below w.heap.size w w' := by
  have hmk : ∀ w, (Instr.makeSlice 22 (.int .i64 1) (.int .i64 1)).run Try.prog w = .ok (.slice (some ⟨w.heap.size, 0, none⟩) 1 1) (w.alloc (.cells (madeCells #[.int .u8 0] 1) 5)) := fun w => run_make_row' (P := Try.prog) 22 5 (.int .u8 0) 1 Try.underlying22 Try.info5 rfl .i64 .i64 1 (by omega) (by omega) w
  have hm0 := made0 1 (by omega)
  go_enter Try.func4, Try.ntmps4
  go_wp2_with (first | (go_at_call 18; refine (zzBytes18 _ _ _ _ _ (Nat.zero_le _)).mono ?_; rintro e w' ⟨rfl, rfl⟩) | (go_at_call 11; refine (clone_any a0 0 cap0 z0 _ h (by omega)).mono ?_; rintro e w1 ⟨a', cap', rfl, hrd, hb⟩))
  refine wp_loop_rounds 1 ?_
  rw [rounds_succ]
  go_wp2_with fail
  have hrow := rowIs_made_set w1 (.int .u8 48) (.int .u8 0) 1 5
  have hb1 : Below w1.heap.size w1 (w1.alloc (Obj.cells ((madeCells #[Value.int IntKind.u8 0] 1).setIfInBounds 0 (Value.int IntKind.u8 48)) 5)) := (Below.refl _ _).alloc (Nat.le_refl _) _
  refine (zzParse_any a' 0 cap' [] a1 _ (by simpa using hrd.below hb1) (by omega)).mono ?_
  rintro e w2 ⟨rfl, rfl⟩
  go_wp2_with fail
  refine (zzParse_any (some ⟨w1.heap.size, 0, none⟩) 1 1 [48] a1 _ (Rd.of_row (hrow.congr (fun i hi => by simp [show i = 0 by omega])) rfl (fun i => by cases i <;> simp)) (by omega)).mono ?_
  rintro e w2 ⟨rfl, rfl⟩
  rw [Plain.parse_zero_nil]
  have e1 : Plain.parse a1 [] = none := rfl
  rw [e1]
  go_wp2
  go_ret
  exact ⟨rfl, hb.trans (hb1.mono hb.size)⟩

set_option maxHeartbeats 1000000 in
theorem lz_row (a0 : Option Addr) (len0 cap0 : Nat) (z0 : List Int) (a1 : Int) (w : World) (h : Came .u8 w a0 len0 cap0 z0) (hl : len0 ≤ 1048576) (hp : 0 < len0) :
    Calls Try.prog 4 #[.slice a0 len0 cap0, .int .u64 a1] w fun e w' => e = .returned (.bool true) ∧ Below w.heap.size w w' := by
  have hmk0 := fun w => run_make_row' (P := Try.prog) 22 5 (.int .u8 0) 1 Try.underlying22 Try.info5 rfl .i64 .i64 (len0 + 1) (by omega) (by omega) w
  have ec : ((len0 + 1 : Nat) : Int) = (len0 : Int) + 1 := by omega
  rw [ec] at hmk0
  clear ec
  have hm0 := made0 (len0 + 1) (by omega)
  have hd : decide (len0 ≤ 1048576) = true := decide_eq_true hl
  have hz : ((len0 : Int) == 0) = false := by simp; omega
  have hmx : len0 ≤ maxLen := h.max
  have hby := h.bytes
  have hlen := h.take_length
  generalize hzs : z0.take len0 = zs at hby hlen
  go_enter Try.func4, Try.ntmps4
  go_wp2_with (first | (go_at_call 18; refine (zzBytes18 _ _ _ _ _ hmx).mono ?_; rintro e w' ⟨rfl, rfl⟩) | (go_at_call 11; refine (clone_pos a0 len0 cap0 z0 _ h hl hp).mono ?_; rintro e w1 ⟨rfl, hsz, hrow, hb⟩))
  have hrow0 := rowIs_made_set w1 (.int .u8 48) (.int .u8 0) (len0 + 1) 5
  have hbl : Below (w.heap.size + 1) w1 (w1.alloc (Obj.cells ((madeCells #[Value.int IntKind.u8 0] (len0 + 1)).setIfInBounds 0 (Value.int IntKind.u8 48)) 5)) := (Below.refl _ _).alloc (by omega) _
  rw [hsz] at hrow0
  have HS : Hid (w1.heap.size = w.heap.size + 1) := hsz
  have HR1 : Hid (w1.rowIs w.heap.size 5 len0 (fun i => .int .u8 (zs.getD i 0))) := by rw [hzs] at hrow; exact hrow
  have HH : Hid (Came .u8 w a0 len0 cap0 z0) := h
  clear hmk0 hm0 hsz hrow h
  go_loopw [6] (fun i wr => ∃ k : Nat, k ≤ len0 ∧ i = .int .i64 k ∧ wr.rowIs (w.heap.size + 1) 5 (len0 + 1) (fun i => if i < k + 1 then .int .u8 ((48 :: zs).getD i 0) else .int .u8 0) ∧ Below (w.heap.size + 1) w1 wr) (fun i _ => len0 - (intOf i).toNat)
  case atStart => exact ⟨0, Nat.zero_le _, rfl, hrow0.congr (fun i hi => by cases i <;> simp), hbl⟩
  case round =>
    clear hrow0 hbl
    obtain ⟨k, hk, rfl, hrow, hbel⟩ := hrel
    by_cases hlt : k < len0
    · have hck : wr.cell? ⟨w.heap.size, k, none⟩ = some (.int .u8 (zs.getD k 0)) := (hbel.cell (p := ⟨w.heap.size, k, none⟩) (Nat.lt_succ_self _)).trans (HR1.out.cell hlt)
      obtain ⟨c, hcc⟩ : ∃ c, c = zs.getD k 0 := ⟨_, rfl⟩
      rw [← hcc] at hck
      have HC : Hid (c = zs.getD k 0) := hcc
      have hdst : wr.cell? ⟨w.heap.size + 1, k + 1, none⟩ = some (.int .u8 0) := by rw [hrow.cell (by omega)]; simp
      have hfr : wr.frozen? ⟨w.heap.size + 1, k + 1, none⟩ = false := hrow.frozen _
      have HR : Hid (wr.rowIs (w.heap.size + 1) 5 (len0 + 1) (fun i => if i < k + 1 then .int .u8 ((48 :: zs).getD i 0) else .int .u8 0)) := hrow
      clear hcc hrow hby
      go_wp2
      go_roundw
      case rel => exact ⟨k + 1, by omega, by go_num, (HR.out.set (k + 1) _).congr (fun i _ => row_step (zs := 48 :: zs) (by simpa using HC.out) i), hbel.setCell (by simp) _⟩
      case measure => simp [intOf]; omega
    · have hrd1 : Rd w1 (some ⟨w.heap.size, 0, none⟩) len0 zs := Rd.of_row HR1.out hlen hby
      have hrd2 : Rd wr (some ⟨w.heap.size + 1, 0, none⟩) (len0 + 1) (48 :: zs) := Rd.of_row (hrow.congr (fun i hi => by rw [if_pos (by omega)])) (by simp [hlen]) (fun i => by cases i with | zero => simp | succ i => simpa using hby i)
      have hne : zs ≠ [] := by intro e; subst e; simp at hlen; omega
      have hrd1' : Rd wr (some ⟨w.heap.size, 0, none⟩) len0 zs := hrd1.below (by rw [HS.out]; exact hbel)
      have HB : Hid (Below w.heap.size w wr) := hb.trans (hbel.mono (by omega))
      clear hrow hby hrd1 hbel hb
      go_wp2_with fail
      refine (zzParse_any (some ⟨w.heap.size, 0, none⟩) len0 len0 zs a1 _ hrd1' (by omega)).mono ?_
      rintro e w2 ⟨rfl, rfl⟩
      go_wp2_with fail
      refine (zzParse_any (some ⟨w.heap.size + 1, 0, none⟩) (len0 + 1) (len0 + 1) (48 :: zs) a1 _ hrd2 (by omega)).mono ?_
      rintro e w2 ⟨rfl, rfl⟩
      rw [Plain.parse_zero a1 zs hne]
      generalize (Plain.parse a1 zs).getD 0 = n
      generalize (Plain.parse a1 zs).isSome = ok
      clear hrd1' hrd2 hne
      go_wp2
      go_ret
      exact ⟨rfl, HB.out⟩

theorem lz_any (a0 : Option Addr) (len0 cap0 : Nat) (z0 : List Int) (a1 : Int) (w : World) (h : Came .u8 w a0 len0 cap0 z0) :
    Calls Try.prog 4 #[.slice a0 len0 cap0, .int .u64 a1] w fun e w' => e = .returned (.bool true) ∧ Below w.heap.size w w' := by
  by_cases hl : len0 ≤ 1048576
  · by_cases hp : 0 < len0
    · exact lz_row a0 len0 cap0 z0 a1 w h hl hp
    · have : len0 = 0 := by omega
      subst this
      exact lz_empty a0 cap0 z0 a1 w h
  · exact lz_long a0 len0 cap0 a1 w h.max hl

end Go.Proofs.Qxb6601678a
