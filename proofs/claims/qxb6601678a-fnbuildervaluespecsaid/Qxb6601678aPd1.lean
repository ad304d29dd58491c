/-
  THE WALKS OF THE SHARED FUNCTIONS (1): parseDigits, ZZparseDigits, cloneBytes.
-/
import Derived.Test.Qxb6601678aProg
import Derived.Test.Qxb6601678aPlain
import Derived.WalkKit
import Derived.WalkSpells
import Derived.Deep.OwnRows
import Derived.ProofKit
import Derived.OpenShut
namespace Go.Proofs.Qxb6601678a
open Go.RowKit Go.ChangeShapes Go.WideShapes Go.ChangeAt
set_option linter.unusedVariables false

/-- A slice of bytes that can be read: its elements are zs. -/
def Rd (w : World) (a : Option Addr) (len : Nat) (zs : List Int) : Prop :=
  zs.length = len ∧ (∀ i, 0 ≤ zs.getD i 0 ∧ zs.getD i 0 ≤ 255) ∧
  (len = 0 ∨ ∃ b off, a = some ⟨b, off, none⟩ ∧ b < w.heap.size ∧ ∀ i, i < len → w.cell? ⟨b, off + i, none⟩ = some (.int .u8 (zs.getD i 0)))

theorem Rd.below {w w' : World} {a : Option Addr} {len : Nat} {zs : List Int} (h : Rd w a len zs) (hb : Below w.heap.size w w') : Rd w' a len zs := by
  obtain ⟨h1, h2, h3⟩ := h
  refine ⟨h1, h2, ?_⟩
  rcases h3 with h3 | ⟨b, off, ha, hlt, hc⟩
  · exact .inl h3
  · exact .inr ⟨b, off, ha, Nat.lt_of_lt_of_le hlt hb.size, fun i hi => (hb.cell (p := ⟨b, off + i, none⟩) hlt).trans (hc i hi)⟩

theorem getD_drop (zs : List Int) (k : Nat) (h : k < zs.length) : zs.drop k = zs.getD k 0 :: zs.drop (k + 1) := by
  rw [List.drop_eq_getElem_cons h]
  simp [List.getD, h]

theorem pd_step_ok (L m c : Int) (cs : List Int) (h1 : 48 ≤ c) (h2 : c ≤ 57) (h3 : ¬ ((L - (c - 48)) % 18446744073709551616) / 10 < m) :
    Plain.pd L (c :: cs) m = Plain.pd L cs ((m * 10 + (c - 48)) % 18446744073709551616) := by
  rw [Plain.pd, if_neg (by omega), if_neg h3]

theorem pd_step_bad (L m c : Int) (cs : List Int) (h : c < 48 ∨ 57 < c) : Plain.pd L (c :: cs) m = none := by
  rw [Plain.pd, if_pos h]

theorem pd_step_big (L m c : Int) (cs : List Int) (h1 : 48 ≤ c) (h2 : c ≤ 57) (h3 : ((L - (c - 48)) % 18446744073709551616) / 10 < m) : Plain.pd L (c :: cs) m = none := by
  rw [Plain.pd, if_neg (by omega), if_pos h3]

theorem u64q (x : Int) : IntKind.u64.wrap ((IntKind.u64.wrap x).tdiv 10) = (x % 18446744073709551616) / 10 := by
  rw [IntKind.wrap_u64, IntKind.wrap_u64, Int.tdiv_eq_ediv_of_nonneg (by omega)]
  omega

theorem u64m (m d : Int) : IntKind.u64.wrap (IntKind.u64.wrap (m * 10) + d) = (m * 10 + d) % 18446744073709551616 := by
  rw [IntKind.wrap_u64, IntKind.wrap_u64]
  omega

theorem ret_none {L : Int} {zs : List Int} (h : Plain.pd L zs 0 = none) : Ending.returned (.tuple #[.int .u64 0, .bool false]) = .returned (.tuple #[.int .u64 ((Plain.pd L zs 0).getD 0), .bool (Plain.pd L zs 0).isSome]) := by
  rw [h]; rfl

theorem ret_some {L m : Int} {zs : List Int} (h : Plain.pd L zs 0 = some m) : Ending.returned (.tuple #[.int .u64 m, .bool true]) = .returned (.tuple #[.int .u64 ((Plain.pd L zs 0).getD 0), .bool (Plain.pd L zs 0).isSome]) := by
  rw [h]; rfl

theorem pd_next {L m c : Int} {zs : List Int} {k : Nat} (HP : Hid (Plain.pd L (zs.drop k) m = Plain.pd L zs 0)) (HD : Hid (zs.drop k = c :: zs.drop (k + 1)))
    (h : 48 ≤ c ∧ c ≤ 57) (h3 : m ≤ IntKind.u64.wrap ((IntKind.u64.wrap (L - (c - 48))).tdiv 10)) : Plain.pd L (zs.drop (k + 1)) (IntKind.u64.wrap (IntKind.u64.wrap (m * 10) + (c - 48))) = Plain.pd L zs 0 := by
  rw [u64q] at h3
  rw [← HP.out, HD.out, pd_step_ok L m c _ h.1 h.2 (by omega), u64m]

set_option maxHeartbeats 1000000 in
theorem parseDigits_row (b off len cap : Nat) (zs : List Int) (L : Int) (w : World) (hlen : zs.length = len) (hm : len ≤ 1048577) (hby : ∀ i, 0 ≤ zs.getD i 0 ∧ zs.getD i 0 ≤ 255)
    (hpos : 0 < len)
    (hc : ∀ i, i < len → w.cell? ⟨b, off + i, none⟩ = some (.int .u8 (zs.getD i 0))) :
    Calls Try.prog 31 #[.slice (some ⟨b, off, none⟩) len cap, .int .u64 L] w fun e w' => e = .returned (.tuple #[.int .u64 ((Plain.pd L zs 0).getD 0), .bool (Plain.pd L zs 0).isSome]) ∧ w = w' := by
  have hz : ((len : Int) == 0) = false := by simp; omega
  go_enter Try.func31, Try.ntmps31
  go_wp2
  go_loop [6, 15] (fun n i => ∃ (k : Nat) (m : Int), k ≤ len ∧ i = .int .i64 k ∧ n = .int .u64 m ∧ 0 ≤ m ∧ m ≤ 18446744073709551615 ∧ Hid (Plain.pd L (zs.drop k) m = Plain.pd L zs 0)) (fun _ i => len - (intOf i).toNat)
  case atStart => exact ⟨0, 0, Nat.zero_le _, rfl, rfl, by omega, by omega, rfl⟩
  case round =>
    obtain ⟨k, m, hk, rfl, rfl, hm0, hm1, HP⟩ := hrel
    by_cases hlt : k < len
    · have hck := hc k hlt
      have hbk := hby k
      have hdr := getD_drop zs k (by omega)
      obtain ⟨c, hcc⟩ : ∃ c, c = zs.getD k 0 := ⟨_, rfl⟩
      rw [← hcc] at hck hbk hdr
      have HD : Hid (zs.drop k = c :: zs.drop (k + 1)) := hdr
      clear hdr hcc hc hby
      by_cases h1 : c < 48
      · go_wp2
        go_ret2
        exact ⟨ret_none (by rw [← HP.out, HD.out]; exact pd_step_bad L m c _ (.inl h1)), rfl⟩
      · by_cases h2 : 57 < c
        · go_wp2
          go_ret2
          exact ⟨ret_none (by rw [← HP.out, HD.out]; exact pd_step_bad L m c _ (.inr h2)), rfl⟩
        · by_cases h3 : IntKind.u64.wrap ((IntKind.u64.wrap (L - (c - 48))).tdiv 10) < m
          · go_wp2
            go_ret2
            exact ⟨ret_none (by rw [← HP.out, HD.out]; exact pd_step_big L m c _ (by omega) (by omega) (by rw [u64q] at h3; exact h3)), rfl⟩
          · go_wp2
            go_round
            case rel => exact ⟨k + 1, _, by omega, by go_num, rfl, by rw [u64m]; omega, by rw [u64m]; omega, pd_next HP HD (by omega) (by omega)⟩
            case measure => simp [intOf]; omega
    · have hkl : k = zs.length := by omega
      have HP' : Hid (Plain.pd L zs 0 = some m) := by
        have := HP.out
        rw [List.drop_of_length_le (by omega)] at this
        exact this.symm
      clear hkl hc hby
      go_wp2
      go_ret2
      exact ⟨ret_some HP'.out, rfl⟩

theorem parseDigits_any (a : Option Addr) (len cap : Nat) (zs : List Int) (L : Int) (w : World) (h : Rd w a len zs) (hm : len ≤ 1048577) :
    Calls Try.prog 31 #[.slice a len cap, .int .u64 L] w fun e w' => e = .returned (.tuple #[.int .u64 ((Plain.parse L zs).getD 0), .bool (Plain.parse L zs).isSome]) ∧ w = w' := by
  obtain ⟨h1, h2, h3⟩ := h
  by_cases hl : len = 0
  · have hz : zs = [] := List.eq_nil_of_length_eq_zero (by omega)
    subst hz
    subst hl
    go_enter Try.func31, Try.ntmps31
    go_wp2
    go_ret2
    exact ⟨rfl, rfl⟩
  · rcases h3 with h3 | ⟨b, off, rfl, _, hc⟩
    · exact absurd h3 hl
    · have hz : zs ≠ [] := by intro e; subst e; simp at h1; omega
      have e : Plain.parse L zs = Plain.pd L zs 0 := by unfold Plain.parse; rw [if_neg hz]
      rw [e]
      exact parseDigits_row b off len cap zs L w h1 hm h2 (by omega) hc

theorem zzParse_any (a : Option Addr) (len cap : Nat) (zs : List Int) (L : Int) (w : World) (h : Rd w a len zs) (hm : len ≤ 1048577) :
    Calls Try.prog 12 #[.slice a len cap, .int .u64 L] w fun e w' => e = .returned (.tuple #[.int .u64 ((Plain.parse L zs).getD 0), .bool (Plain.parse L zs).isSome]) ∧ w = w' := by
  go_enter Try.func12, Try.ntmps12
  go_wp2_with (go_at_call 31; refine (parseDigits_any _ _ _ zs _ _ h hm).mono ?_; rintro e w' ⟨rfl, rfl⟩)
  go_ret2
  exact ⟨rfl, rfl⟩

/-! ### the bounds on the lengths -/
theorem zzBytes10 (a : Option Addr) (len cap : Nat) (L : Int) (w : World) (hm : len ≤ maxLen) :
    Calls Try.prog 10 #[.slice a len cap, .int .u64 L] w fun e w' => e = .returned (.bool (decide (len ≤ 1048576))) ∧ w = w' := by
  unfold maxLen at hm
  by_cases h : len ≤ 1048576
  · rw [decide_eq_true h]
    go_enter Try.func10, Try.ntmps10
    go_wp2
    go_ret
    exact ⟨rfl, rfl⟩
  · rw [decide_eq_false h]
    go_enter Try.func10, Try.ntmps10
    go_wp2
    go_ret
    exact ⟨rfl, rfl⟩

theorem zzBytes18 (a : Option Addr) (len cap : Nat) (L : Int) (w : World) (hm : len ≤ maxLen) :
    Calls Try.prog 18 #[.slice a len cap, .int .u64 L] w fun e w' => e = .returned (.bool (decide (len ≤ 1048576))) ∧ w = w' := by
  unfold maxLen at hm
  by_cases h : len ≤ 1048576
  · rw [decide_eq_true h]
    go_enter Try.func18, Try.ntmps18
    go_wp2
    go_ret
    exact ⟨rfl, rfl⟩
  · rw [decide_eq_false h]
    go_enter Try.func18, Try.ntmps18
    go_wp2
    go_ret
    exact ⟨rfl, rfl⟩

/-! ### cloneBytes -/
theorem Try.info5 : (Try.prog.info? 5).map (fun i => (i.zero, i.size, i.bytes)) = some (some (.int .u8 0), 1, 1) := by kernel_rfl

theorem clone_nil (w : World) : Calls Try.prog 11 #[.slice none 0 0] w fun e w' => e = .returned (.slice none 0 0) ∧ w = w' := by
  have hq := fun w => Lib.run_eql_slice_nil (P := Try.prog) w 22 5 none 0 0 0 0 Try.underlying22
  go_enter Try.func11, Try.ntmps11
  go_wp2
  go_ret
  exact ⟨rfl, rfl⟩

theorem row_step {zs : List Int} {c : Int} {k : Nat} (hc : c = zs.getD k 0) (i : Nat) : (if i = k then Value.int .u8 c else if i < k then .int .u8 (zs.getD i 0) else .int .u8 0) = if i < k + 1 then .int .u8 (zs.getD i 0) else .int .u8 0 := by
  by_cases e : i = k
  · subst e
    rw [if_pos rfl, if_pos (by omega), hc]
  · rw [if_neg e]
    by_cases h : i < k
    · rw [if_pos h, if_pos (by omega)]
    · rw [if_neg h, if_neg (by omega)]

set_option maxHeartbeats 1000000 in
theorem clone_row (b off len cap : Nat) (zs : List Int) (w : World) (hm : len ≤ 1048576) (hb : 0 < len → b < w.heap.size)
    (hc : ∀ i, i < len → w.cell? ⟨b, off + i, none⟩ = some (.int .u8 (zs.getD i 0))) :
    Calls Try.prog 11 #[.slice (some ⟨b, off, none⟩) len cap] w fun e w' => e = .returned (.slice (some ⟨w.heap.size, 0, none⟩) len len) ∧ w'.heap.size = w.heap.size + 1 ∧ w'.rowIs w.heap.size 5 len (fun i => .int .u8 (zs.getD i 0)) ∧ Below w.heap.size w w' := by
  have hq := fun w => Lib.run_eql_slice_nil (P := Try.prog) w 22 5 (some ⟨b, off, none⟩) len cap 0 0 Try.underlying22
  have hmk := fun w => run_make_row' (P := Try.prog) 22 5 (.int .u8 0) 1 Try.underlying22 Try.info5 rfl .i64 .i64 len (by omega) (by omega) w
  go_enter Try.func11, Try.ntmps11
  go_wp2
  go_loopw [4] (fun i wr => ∃ k : Nat, k ≤ len ∧ i = .int .i64 k ∧ wr.heap.size = w.heap.size + 1 ∧ wr.rowIs w.heap.size 5 len (fun i => if i < k then .int .u8 (zs.getD i 0) else .int .u8 0) ∧ Below w.heap.size w wr) (fun i _ => len - (intOf i).toNat)
  case atStart => exact ⟨0, Nat.zero_le _, rfl, by simp, (World.rowIs_made w _ len 5).congr (fun i _ => by simp), (Below.refl _ _).alloc (Nat.le_refl _) _⟩
  case round =>
    obtain ⟨k, hk, rfl, hsz, hrow, hbel⟩ := hrel
    by_cases hlt : k < len
    · have hck : wr.cell? ⟨b, off + k, none⟩ = some (.int .u8 (zs.getD k 0)) := (hbel.cell (p := ⟨b, off + k, none⟩) (hb (by omega))).trans (hc k hlt)
      obtain ⟨c, hcc⟩ : ∃ c, c = zs.getD k 0 := ⟨_, rfl⟩
      rw [← hcc] at hck
      have HC : Hid (c = zs.getD k 0) := hcc
      have hdst : wr.cell? ⟨w.heap.size, k, none⟩ = some (.int .u8 0) := by rw [hrow.cell hlt]; simp
      have hfr : wr.frozen? ⟨w.heap.size, k, none⟩ = false := hrow.frozen k
      have HR : Hid (wr.rowIs w.heap.size 5 len (fun i => if i < k then .int .u8 (zs.getD i 0) else .int .u8 0)) := hrow
      clear hcc hc hrow hq hmk
      go_wp2
      go_roundw
      case rel =>
        refine ⟨k + 1, by omega, by go_num, by simp [hsz], (HR.out.set k _).congr (fun i _ => ?_), hbel.setCell (Nat.le_refl _) _⟩
        exact row_step HC.out i
      case measure => simp [intOf]; omega
    · clear hc hq hmk
      go_wp2
      go_ret
      refine ⟨rfl, hsz, hrow.congr (fun i hi => ?_), hbel⟩
      rw [if_pos (by omega)]

theorem clone_zero (x : Addr) (cap : Nat) (w : World) :
    Calls Try.prog 11 #[.slice (some x) 0 cap] w fun e w' => e = .returned (.slice (some ⟨w.heap.size, 0, none⟩) 0 0) ∧ Below w.heap.size w w' := by
  have hq := fun w => Lib.run_eql_slice_nil (P := Try.prog) w 22 5 (some x) 0 cap 0 0 Try.underlying22
  have hmk : ∀ w, (Instr.makeSlice 22 (.int .i64 0) (.int .i64 0)).run Try.prog w = .ok (.slice (some ⟨w.heap.size, 0, none⟩) 0 0) (w.alloc (.cells (madeCells #[.int .u8 0] 0) 5)) := fun w => run_make_row' (P := Try.prog) 22 5 (.int .u8 0) 1 Try.underlying22 Try.info5 rfl .i64 .i64 0 (by omega) (by omega) w
  go_enter Try.func11, Try.ntmps11
  go_wp2
  refine wp_loop_rounds 1 ?_
  rw [rounds_succ]
  go_wp2
  go_ret
  exact ⟨rfl, (Below.refl _ _).alloc (Nat.le_refl _) _⟩

/-- A slice of integers that came in (the shell's own 'IsRow', spelt here once for all). -/
def Came (k : IntKind) (w : World) (a : Option Addr) (len cap : Nat) (zs : List Int) : Prop :=
  (a = none ∧ len = 0 ∧ cap = 0 ∧ zs = []) ∨
  ∃ x, a = some x ∧ len ≤ cap ∧ cap ≤ maxLen ∧ zs.length = cap ∧ (∀ i, i < zs.length → w.cell? (x.add i) = some (.int k (zs.getD i 0))) ∧ ∀ n ∈ zs, (Lit.int k n).wf = true

theorem bytes_of_wf {zs : List Int} (h : ∀ n ∈ zs, (Lit.int .u8 n).wf = true) (i : Nat) : 0 ≤ zs.getD i 0 ∧ zs.getD i 0 ≤ 255 := by
  by_cases hi : i < zs.length
  · have hm : zs.getD i 0 ∈ zs := by simp [List.getD, hi]
    have := bounds_u8 (h _ hm)
    omega
  · simp [List.getD, hi]

theorem getD_take (zs : List Int) (n i : Nat) (h : i < n) : (zs.take n).getD i 0 = zs.getD i 0 := by
  simp [List.getD, h]

theorem cell_lt {w : World} {b off : Nat} {v : Value} (h : w.cell? ⟨b, off, none⟩ = some v) : b < w.heap.size := by
  by_cases hb : b < w.heap.size
  · exact hb
  · simp [World.cell?, hb] at h

theorem clone_any (a : Option Addr) (len cap : Nat) (zs : List Int) (w : World) (h : Came .u8 w a len cap zs) (hm : len ≤ 1048576) :
    Calls Try.prog 11 #[.slice a len cap] w fun e w' => ∃ a' cap', e = .returned (.slice a' len cap') ∧ Rd w' a' len (zs.take len) ∧ Below w.heap.size w w' := by
  rcases h with ⟨rfl, rfl, rfl, rfl⟩ | ⟨x, rfl, hl, hcm, hz, hc, hwf⟩
  · refine (clone_nil w).mono ?_
    rintro e w' ⟨rfl, rfl⟩
    exact ⟨_, _, rfl, ⟨rfl, by simp, .inl rfl⟩, Below.refl _ _⟩
  · by_cases h0 : len = 0
    · subst h0
      refine (clone_zero x cap w).mono ?_
      rintro e w' ⟨rfl, hb⟩
      exact ⟨_, _, rfl, ⟨by simp, by simp, .inl rfl⟩, hb⟩
    · obtain ⟨b, off, spot⟩ := x
      have hspot : spot = none := by simpa [Addr.add] using World.cell?_spot (hc 0 (by omega))
      subst hspot
      have hc' : ∀ i, i < len → w.cell? ⟨b, off + i, none⟩ = some (.int .u8 (zs.getD i 0)) := fun i hi => by rw [← add_plain]; exact hc i (by omega)
      have hlt : b < w.heap.size := cell_lt (hc' 0 (by omega))
      refine (clone_row b off len cap zs w hm (fun _ => hlt) hc').mono ?_
      rintro e w' ⟨rfl, hsz, hrow, hb⟩
      refine ⟨_, _, rfl, ⟨by simp; omega, fun i => ?_, .inr ⟨w.heap.size, 0, rfl, by omega, fun i hi => ?_⟩⟩, hb⟩
      · refine bytes_of_wf (fun n hn => hwf n (List.mem_of_mem_take hn)) i
      · rw [Nat.zero_add, hrow.cell hi, getD_take zs len i hi]

/-- cloneBytes of a slice that is not empty. -/
theorem clone_pos (a : Option Addr) (len cap : Nat) (zs : List Int) (w : World) (h : Came .u8 w a len cap zs) (hm : len ≤ 1048576) (h0 : 0 < len) :
    Calls Try.prog 11 #[.slice a len cap] w fun e w' => e = .returned (.slice (some ⟨w.heap.size, 0, none⟩) len len) ∧ w'.heap.size = w.heap.size + 1 ∧ w'.rowIs w.heap.size 5 len (fun i => .int .u8 ((zs.take len).getD i 0)) ∧ Below w.heap.size w w' := by
  rcases h with ⟨rfl, rfl, rfl, rfl⟩ | ⟨x, rfl, hl, hcm, hz, hc, hwf⟩
  · omega
  · obtain ⟨b, off, spot⟩ := x
    have hspot : spot = none := by simpa [Addr.add] using World.cell?_spot (hc 0 (by omega))
    subst hspot
    have hc' : ∀ i, i < len → w.cell? ⟨b, off + i, none⟩ = some (.int .u8 (zs.getD i 0)) := fun i hi => by rw [← add_plain]; exact hc i (by omega)
    have hlt : b < w.heap.size := cell_lt (hc' 0 (by omega))
    refine (clone_row b off len cap zs w hm (fun _ => hlt) hc').mono ?_
    rintro e w' ⟨rfl, hsz, hrow, hb⟩
    exact ⟨rfl, hsz, hrow.congr (fun i hi => by rw [getD_take zs len i hi]), hb⟩

theorem Came.bytes {w : World} {a : Option Addr} {len cap : Nat} {zs : List Int} (h : Came .u8 w a len cap zs) (i : Nat) : 0 ≤ (zs.take len).getD i 0 ∧ (zs.take len).getD i 0 ≤ 255 := by
  rcases h with ⟨rfl, rfl, rfl, rfl⟩ | ⟨x, rfl, hl, hcm, hz, hc, hwf⟩
  · simp
  · exact bytes_of_wf (fun n hn => hwf n (List.mem_of_mem_take hn)) i

theorem Came.take_length {w : World} {a : Option Addr} {len cap : Nat} {zs : List Int} (h : Came .u8 w a len cap zs) : (zs.take len).length = len := by
  rcases h with ⟨rfl, rfl, rfl, rfl⟩ | ⟨x, rfl, hl, hcm, hz, hc, hwf⟩
  · simp
  · simp; omega

theorem Came.max {w : World} {a : Option Addr} {len cap : Nat} {zs : List Int} (h : Came .u8 w a len cap zs) : len ≤ maxLen := by
  rcases h with ⟨rfl, rfl, rfl, rfl⟩ | ⟨x, rfl, hl, hcm, hz, hc, hwf⟩
  · exact Nat.zero_le _
  · omega

theorem Rd.of_row {w : World} {b len : Nat} {zs : List Int} (h : w.rowIs b 5 len (fun i => .int .u8 (zs.getD i 0))) (hl : zs.length = len) (hby : ∀ i, 0 ≤ zs.getD i 0 ∧ zs.getD i 0 ≤ 255) : Rd w (some ⟨b, 0, none⟩) len zs :=
  ⟨hl, hby, .inr ⟨b, 0, rfl, h.lt, fun i hi => by rw [Nat.zero_add, h.cell hi]⟩⟩

end Go.Proofs.Qxb6601678a
