/-
  THE WALKS OF FnSpanMatchesCarryModel.
-/
import Derived.Test.Qxb6601712aProg
import Derived.WalkKit
import Derived.WalkSpells
import Derived.WalkSmall
import Derived.Deep.OwnRows
import Derived.ProofKit
import Derived.OpenShut
import Derived.Deep.QuietTactic
import Derived.BigQuiet
namespace Go.Proofs.Qxb6601712a
open Go.RowKit Go.ChangeShapes Go.WideShapes Go.ChangeAt
set_option linter.unusedVariables false

theorem zzBytes10 (a : Option Addr) (len cap : Nat) (x y : Int) (w : World) (hm : len ≤ maxLen) :
    Calls Try.prog 10 #[.slice a len cap, .int .u64 x, .int .u64 y] w fun e w' => e = .returned (.bool (decide (len ≤ 1048576))) ∧ w = w' := by
  unfold maxLen at hm
  by_cases h : len ≤ 1048576
  · rw [decide_eq_true h]
    go_enter Try.func10, Try.ntmps10
    go_wp2
    go_ret
    exact ⟨rfl, rfl⟩
  · rw [decide_eq_false h]
    go_enter Try.func10, Try.ntmps10
    go_wp2
    go_ret
    exact ⟨rfl, rfl⟩

theorem Try.info5 : (Try.prog.info? 5).map (fun i => (i.zero, i.size, i.bytes)) = some (some (.int .u8 0), 1, 1) := by kernel_rfl

theorem clone_nil (w : World) : Calls Try.prog 11 #[.slice none 0 0] w fun e w' => e = .returned (.slice none 0 0) ∧ w = w' := by
  have hq := fun w => Lib.run_eql_slice_nil (P := Try.prog) w 26 5 none 0 0 0 0 Try.underlying26
  go_enter Try.func11, Try.ntmps11
  go_wp2
  go_ret
  exact ⟨rfl, rfl⟩

theorem row_step {zs : List Int} {c : Int} {k : Nat} (hc : c = zs.getD k 0) (i : Nat) : (if i = k then Value.int .u8 c else if i < k then .int .u8 (zs.getD i 0) else .int .u8 0) = if i < k + 1 then .int .u8 (zs.getD i 0) else .int .u8 0 := by
  by_cases e : i = k
  · subst e
    rw [if_pos rfl, if_pos (by omega), hc]
  · rw [if_neg e]
    by_cases h : i < k
    · rw [if_pos h, if_pos (by omega)]
    · rw [if_neg h, if_neg (by omega)]

set_option maxHeartbeats 1000000 in
theorem clone_row (b off len cap : Nat) (zs : List Int) (w : World) (hm : len ≤ 1048576) (hb : 0 < len → b < w.heap.size)
    (hc : ∀ i, i < len → w.cell? ⟨b, off + i, none⟩ = some (.int .u8 (zs.getD i 0))) :
    Calls Try.prog 11 #[.slice (some ⟨b, off, none⟩) len cap] w fun e w' => e = .returned (.slice (some ⟨w.heap.size, 0, none⟩) len len) ∧ w'.heap.size = w.heap.size + 1 ∧ w'.rowIs w.heap.size 5 len (fun i => .int .u8 (zs.getD i 0)) ∧ Below w.heap.size w w' := by
  have hq := fun w => Lib.run_eql_slice_nil (P := Try.prog) w 26 5 (some ⟨b, off, none⟩) len cap 0 0 Try.underlying26
  have hmk := fun w => run_make_row' (P := Try.prog) 26 5 (.int .u8 0) 1 Try.underlying26 Try.info5 rfl .i64 .i64 len (by omega) (by omega) w
  go_enter Try.func11, Try.ntmps11
  go_wp2
  go_loopw [4] (fun i wr => ∃ k : Nat, k ≤ len ∧ i = .int .i64 k ∧ wr.heap.size = w.heap.size + 1 ∧ wr.rowIs w.heap.size 5 len (fun i => if i < k then .int .u8 (zs.getD i 0) else .int .u8 0) ∧ Below w.heap.size w wr) (fun i _ => len - (intOf i).toNat)
  case atStart => exact ⟨0, Nat.zero_le _, rfl, by simp, (World.rowIs_made w _ len 5).congr (fun i _ => by simp), (Below.refl _ _).alloc (Nat.le_refl _) _⟩
  case round =>
    obtain ⟨k, hk, rfl, hsz, hrow, hbel⟩ := hrel
    by_cases hlt : k < len
    · have hck : wr.cell? ⟨b, off + k, none⟩ = some (.int .u8 (zs.getD k 0)) := (hbel.cell (p := ⟨b, off + k, none⟩) (hb (by omega))).trans (hc k hlt)
      obtain ⟨c, hcc⟩ : ∃ c, c = zs.getD k 0 := ⟨_, rfl⟩
      rw [← hcc] at hck
      have HC : Hid (c = zs.getD k 0) := hcc
      have hdst : wr.cell? ⟨w.heap.size, k, none⟩ = some (.int .u8 0) := by rw [hrow.cell hlt]; simp
      have hfr : wr.frozen? ⟨w.heap.size, k, none⟩ = false := hrow.frozen k
      have HR : Hid (wr.rowIs w.heap.size 5 len (fun i => if i < k then .int .u8 (zs.getD i 0) else .int .u8 0)) := hrow
      clear hcc hc hrow hq hmk
      go_wp2
      go_roundw
      case rel =>
        refine ⟨k + 1, by omega, by go_num, by simp [hsz], (HR.out.set k _).congr (fun i _ => ?_), hbel.setCell (Nat.le_refl _) _⟩
        exact row_step HC.out i
      case measure => simp [intOf]; omega
    · clear hc hq hmk
      go_wp2
      go_ret
      refine ⟨rfl, hsz, hrow.congr (fun i hi => ?_), hbel⟩
      rw [if_pos (by omega)]

theorem clone_zero (x : Addr) (cap : Nat) (w : World) :
    Calls Try.prog 11 #[.slice (some x) 0 cap] w fun e w' => e = .returned (.slice (some ⟨w.heap.size, 0, none⟩) 0 0) ∧ Below w.heap.size w w' := by
  have hq := fun w => Lib.run_eql_slice_nil (P := Try.prog) w 26 5 (some x) 0 cap 0 0 Try.underlying26
  have hmk : ∀ w, (Instr.makeSlice 26 (.int .i64 0) (.int .i64 0)).run Try.prog w = .ok (.slice (some ⟨w.heap.size, 0, none⟩) 0 0) (w.alloc (.cells (madeCells #[.int .u8 0] 0) 5)) := fun w => run_make_row' (P := Try.prog) 26 5 (.int .u8 0) 1 Try.underlying26 Try.info5 rfl .i64 .i64 0 (by omega) (by omega) w
  go_enter Try.func11, Try.ntmps11
  go_wp2
  refine wp_loop_rounds 1 ?_
  rw [rounds_succ]
  go_wp2
  go_ret
  exact ⟨rfl, (Below.refl _ _).alloc (Nat.le_refl _) _⟩

/-- A slice of integers that came in (the shell's own 'IsRow', spelt here once for all). -/
def Came (k : IntKind) (w : World) (a : Option Addr) (len cap : Nat) (zs : List Int) : Prop :=
  (a = none ∧ len = 0 ∧ cap = 0 ∧ zs = []) ∨
  ∃ x, a = some x ∧ len ≤ cap ∧ cap ≤ maxLen ∧ zs.length = cap ∧ (∀ i, i < zs.length → w.cell? (x.add i) = some (.int k (zs.getD i 0))) ∧ ∀ n ∈ zs, (Lit.int k n).wf = true

theorem bytes_of_wf {zs : List Int} (h : ∀ n ∈ zs, (Lit.int .u8 n).wf = true) (i : Nat) : 0 ≤ zs.getD i 0 ∧ zs.getD i 0 ≤ 255 := by
  by_cases hi : i < zs.length
  · have hm : zs.getD i 0 ∈ zs := by simp [List.getD, hi]
    have := bounds_u8 (h _ hm)
    omega
  · simp [List.getD, hi]

theorem getD_take (zs : List Int) (n i : Nat) (h : i < n) : (zs.take n).getD i 0 = zs.getD i 0 := by
  simp [List.getD, h]

theorem cell_lt {w : World} {b off : Nat} {v : Value} (h : w.cell? ⟨b, off, none⟩ = some v) : b < w.heap.size := by
  by_cases hb : b < w.heap.size
  · exact hb
  · simp [World.cell?, hb] at h

/-- cloneBytes of a slice that is not empty. -/
theorem clone_pos (a : Option Addr) (len cap : Nat) (zs : List Int) (w : World) (h : Came .u8 w a len cap zs) (hm : len ≤ 1048576) (h0 : 0 < len) :
    Calls Try.prog 11 #[.slice a len cap] w fun e w' => e = .returned (.slice (some ⟨w.heap.size, 0, none⟩) len len) ∧ w'.heap.size = w.heap.size + 1 ∧ w'.rowIs w.heap.size 5 len (fun i => .int .u8 ((zs.take len).getD i 0)) ∧ Below w.heap.size w w' := by
  rcases h with ⟨rfl, rfl, rfl, rfl⟩ | ⟨x, rfl, hl, hcm, hz, hc, hwf⟩
  · omega
  · obtain ⟨b, off, spot⟩ := x
    have hspot : spot = none := by simpa [Addr.add] using World.cell?_spot (hc 0 (by omega))
    subst hspot
    have hc' : ∀ i, i < len → w.cell? ⟨b, off + i, none⟩ = some (.int .u8 (zs.getD i 0)) := fun i hi => by rw [← add_plain]; exact hc i (by omega)
    have hlt : b < w.heap.size := cell_lt (hc' 0 (by omega))
    refine (clone_row b off len cap zs w hm (fun _ => hlt) hc').mono ?_
    rintro e w' ⟨rfl, hsz, hrow, hb⟩
    exact ⟨rfl, hsz, hrow.congr (fun i hi => by rw [getD_take zs len i hi]), hb⟩

theorem Came.bytes {w : World} {a : Option Addr} {len cap : Nat} {zs : List Int} (h : Came .u8 w a len cap zs) (i : Nat) : 0 ≤ (zs.take len).getD i 0 ∧ (zs.take len).getD i 0 ≤ 255 := by
  rcases h with ⟨rfl, rfl, rfl, rfl⟩ | ⟨x, rfl, hl, hcm, hz, hc, hwf⟩
  · simp
  · exact bytes_of_wf (fun n hn => hwf n (List.mem_of_mem_take hn)) i

theorem Came.take_length {w : World} {a : Option Addr} {len cap : Nat} {zs : List Int} (h : Came .u8 w a len cap zs) : (zs.take len).length = len := by
  rcases h with ⟨rfl, rfl, rfl, rfl⟩ | ⟨x, rfl, hl, hcm, hz, hc, hwf⟩
  · simp
  · simp; omega

theorem Came.max {w : World} {a : Option Addr} {len cap : Nat} {zs : List Int} (h : Came .u8 w a len cap zs) : len ≤ maxLen := by
  rcases h with ⟨rfl, rfl, rfl, rfl⟩ | ⟨x, rfl, hl, hcm, hz, hc, hwf⟩
  · exact Nat.zero_le _
  · omega

/-- A slice of bytes of the call's own: the whole of its array. -/
def Own (w : World) (a : Option Addr) (len : Nat) (zs : List Int) : Prop :=
  zs.length = len ∧ (∀ i, 0 ≤ zs.getD i 0 ∧ zs.getD i 0 ≤ 255) ∧
  (len = 0 ∨ ∃ b, a = some ⟨b, 0, none⟩ ∧ b < w.heap.size ∧ ∀ i, i < len → w.cell? ⟨b, i, none⟩ = some (.int .u8 (zs.getD i 0)))

theorem Own.below {w w' : World} {a : Option Addr} {len : Nat} {zs : List Int} (h : Own w a len zs) (hb : Below w.heap.size w w') : Own w' a len zs := by
  obtain ⟨h1, h2, h3⟩ := h
  refine ⟨h1, h2, ?_⟩
  rcases h3 with h3 | ⟨b, ha, hlt, hc⟩
  · exact .inl h3
  · exact .inr ⟨b, ha, Nat.lt_of_lt_of_le hlt hb.size, fun i hi => (hb.cell (p := ⟨b, i, none⟩) hlt).trans (hc i hi)⟩

theorem clone_own (a : Option Addr) (len cap : Nat) (zs : List Int) (w : World) (h : Came .u8 w a len cap zs) (hm : len ≤ 1048576) :
    Calls Try.prog 11 #[.slice a len cap] w fun e w' => ∃ a', e = .returned (.slice a' len len) ∧ Own w' a' len (zs.take len) ∧ Below w.heap.size w w' := by
  by_cases h0 : 0 < len
  · refine (clone_pos a len cap zs w h hm h0).mono ?_
    rintro e w' ⟨rfl, hsz, hrow, hb⟩
    exact ⟨_, rfl, ⟨h.take_length, h.bytes, .inr ⟨_, rfl, by omega, fun i hi => hrow.cell hi⟩⟩, hb⟩
  · have : len = 0 := by omega
    subst this
    rcases h with ⟨rfl, _, rfl, rfl⟩ | ⟨x, rfl, hl, hcm, hz, hc, hwf⟩
    · refine (clone_nil w).mono ?_
      rintro e w' ⟨rfl, rfl⟩
      exact ⟨_, rfl, ⟨rfl, by simp, .inl rfl⟩, Below.refl _ _⟩
    · refine (clone_zero x cap w).mono ?_
      rintro e w' ⟨rfl, hb⟩
      exact ⟨_, rfl, ⟨by simp, by simp, .inl rfl⟩, hb⟩

/-! ### Span -/
theorem span_above (a : Option Addr) (len : Nat) (x n : Int) (w : World) (hm : len ≤ 1048576) (hx : (len : Int) < x) :
    Calls Try.prog 12 #[.slice a len len, .int .u64 x, .int .u64 n] w fun e w' => e = .returned (.tuple #[.slice none 0 0, .bool false]) ∧ w = w' := by
  go_enter Try.func12, Try.ntmps12
  go_wp2
  go_ret2
  exact ⟨rfl, rfl⟩

theorem span_beyond (a : Option Addr) (len : Nat) (x n : Int) (w : World) (hm : len ≤ 1048576) (hx0 : 0 ≤ x) (hx : x ≤ (len : Int)) (hn : (len : Int) - x < n) :
    Calls Try.prog 12 #[.slice a len len, .int .u64 x, .int .u64 n] w fun e w' => e = .returned (.tuple #[.slice none 0 0, .bool false]) ∧ w = w' := by
  go_enter Try.func12, Try.ntmps12
  go_wp2
  go_ret2
  exact ⟨rfl, rfl⟩

theorem span_none (a : Option Addr) (len A : Nat) (w : World) (hm : len ≤ 1048576) (hx : A ≤ len) (ha : len = 0 ∨ ∃ b, a = some ⟨b, 0, none⟩) :
    Calls Try.prog 12 #[.slice a len len, .int .u64 A, .int .u64 0] w fun e w' => ∃ a' c', e = .returned (.tuple #[.slice a' 0 c', .bool true]) ∧ w = w' := by
  rcases ha with rfl | ⟨b, rfl⟩
  · have : A = 0 := by omega
    subst this
    rcases a with _ | x
    all_goals
      go_enter Try.func12, Try.ntmps12
      go_wp2
      go_ret2
      exact ⟨_, _, rfl, rfl⟩
  · go_enter Try.func12, Try.ntmps12
    go_wp2
    all_goals
      go_ret2
      first | exact ⟨_, _, rfl, rfl⟩ | exact ⟨⟨_, _, rfl⟩, rfl⟩

theorem ret_span {a : Option Addr} {n m c : Nat} (h : n = m) : Ending.returned (.tuple #[.slice a n c, .bool true]) = .returned (.tuple #[.slice a m c, .bool true]) := by rw [h]

theorem hide {p : Prop} (h : p) : Hid p := h
theorem span_some (b len A N : Nat) (w : World) (hm : len ≤ 1048576) (hN : 0 < N) (hx : A + N ≤ len) :
    Calls Try.prog 12 #[.slice (some ⟨b, 0, none⟩) len len, .int .u64 A, .int .u64 N] w fun e w' => e = .returned (.tuple #[.slice (some ⟨b, A, none⟩) N (len - A), .bool true]) ∧ w = w' := by
  go_enter Try.func12, Try.ntmps12
  go_wp2
  go_ret2
  exact ⟨ret_span (by omega), rfl⟩

/-! ### the law -/
theorem sm_long (a0 : Option Addr) (len0 cap0 : Nat) (x n : Int) (w : World) (hm : len0 ≤ maxLen) (hl : ¬ len0 ≤ 1048576) :
    Calls Try.prog 4 #[.slice a0 len0 cap0, .int .u64 x, .int .u64 n] w fun e w' => e = .returned (.bool true) ∧ Below w.heap.size w w' := by
  have hd : decide (len0 ≤ 1048576) = false := decide_eq_false hl
  go_enter Try.func4, Try.ntmps4
  go_wp2_with (go_at_call 10; refine (zzBytes10 _ _ _ _ _ _ hm).mono ?_; rintro e w' ⟨rfl, rfl⟩)
  go_ret
  exact ⟨rfl, Below.refl _ _⟩

/-- not within mem: refused, and the carry model refuses it too -/
theorem sm_out (a0 : Option Addr) (len0 cap0 : Nat) (z0 : List Int) (x n : Int) (w : World) (h : Came .u8 w a0 len0 cap0 z0) (hl : len0 ≤ 1048576) (hx0 : 0 ≤ x) (hx1 : x ≤ 18446744073709551615) (hn0 : 0 ≤ n) (hn1 : n ≤ 18446744073709551615)
    (hspan : ∀ a w, Calls Try.prog 12 #[.slice a len0 len0, .int .u64 x, .int .u64 n] w fun e w' => e = .returned (.tuple #[.slice none 0 0, .bool false]) ∧ w = w')
    (hout : (len0 : Int) < x + n) :
    Calls Try.prog 4 #[.slice a0 len0 cap0, .int .u64 x, .int .u64 n] w fun e w' => e = .returned (.bool true) ∧ Below w.heap.size w w' := by
  have hq := fun w => Lib.run_eql_slice_nil (P := Try.prog) w 26 5 none 0 0 0 0 Try.underlying26
  have hd : decide (len0 ≤ 1048576) = true := decide_eq_true hl
  have hmx := h.max
  have hE : IntKind.u64.wrap (x + n) < x ∨ (len0 : Int) < IntKind.u64.wrap (x + n) := by rw [IntKind.wrap_u64]; omega
  have HS := hide hspan
  clear hspan hout
  rcases hE with hE | hE
  · go_enter Try.func4, Try.ntmps4
    go_wp2_with (go_at_call 10; refine (zzBytes10 _ _ _ _ _ _ hmx).mono ?_; rintro e w' ⟨rfl, rfl⟩)
    refine (clone_own a0 len0 cap0 z0 w h hl).mono ?_
    rintro e w1 ⟨a', rfl, hown, hb⟩
    go_wp2_with fail
    refine (HS.out a' w1).mono ?_
    rintro e w2 ⟨rfl, rfl⟩
    clear hown
    go_wp2
    go_ret
    exact ⟨rfl, hb⟩
  · by_cases hE2 : IntKind.u64.wrap (x + n) < x
    all_goals
      go_enter Try.func4, Try.ntmps4
      go_wp2_with (go_at_call 10; refine (zzBytes10 _ _ _ _ _ _ hmx).mono ?_; rintro e w' ⟨rfl, rfl⟩)
      refine (clone_own a0 len0 cap0 z0 w h hl).mono ?_
      rintro e w1 ⟨a', rfl, hown, hb⟩
      go_wp2_with fail
      refine (HS.out a' w1).mono ?_
      rintro e w2 ⟨rfl, rfl⟩
      clear hown
      go_wp2
      go_ret
      exact ⟨rfl, hb⟩

/-- within mem, no bytes -/
theorem sm_none (a0 : Option Addr) (len0 cap0 : Nat) (z0 : List Int) (A : Nat) (w : World) (h : Came .u8 w a0 len0 cap0 z0) (hl : len0 ≤ 1048576) (hA : A ≤ len0) :
    Calls Try.prog 4 #[.slice a0 len0 cap0, .int .u64 A, .int .u64 0] w fun e w' => e = .returned (.bool true) ∧ Below w.heap.size w w' := by
  have hd : decide (len0 ≤ 1048576) = true := decide_eq_true hl
  have hmx := h.max
  go_enter Try.func4, Try.ntmps4
  go_wp2_with (go_at_call 10; refine (zzBytes10 _ _ _ _ _ _ hmx).mono ?_; rintro e w' ⟨rfl, rfl⟩)
  refine (clone_own a0 len0 cap0 z0 w h hl).mono ?_
  rintro e w1 ⟨a', rfl, hown, hb⟩
  go_wp2_with fail
  refine (span_none a' len0 A w1 hl hA (by rcases hown.2.2 with h | ⟨b, h, _⟩; exact .inl h; exact .inr ⟨b, h⟩)).mono ?_
  rintro e w2 ⟨a2, c2, rfl, rfl⟩
  clear hown
  go_wp2
  refine wp_loop_rounds 1 ?_
  rw [rounds_succ]
  go_wp2
  go_ret
  exact ⟨rfl, hb⟩

/-- within mem, some bytes -/
theorem sm_some (a0 : Option Addr) (len0 cap0 : Nat) (z0 : List Int) (A N : Nat) (w : World) (h : Came .u8 w a0 len0 cap0 z0) (hl : len0 ≤ 1048576) (hN : 0 < N) (hA : A + N ≤ len0) :
    Calls Try.prog 4 #[.slice a0 len0 cap0, .int .u64 A, .int .u64 N] w fun e w' => e = .returned (.bool true) ∧ Below w.heap.size w w' := by
  have hd : decide (len0 ≤ 1048576) = true := decide_eq_true hl
  have hmx := h.max
  generalize hzs : z0.take len0 = zs
  go_enter Try.func4, Try.ntmps4
  go_wp2_with (go_at_call 10; refine (zzBytes10 _ _ _ _ _ _ hmx).mono ?_; rintro e w' ⟨rfl, rfl⟩)
  refine (clone_own a0 len0 cap0 z0 w h hl).mono ?_
  rintro e w1 ⟨a', rfl, hown, hb⟩
  rw [hzs] at hown
  obtain ⟨-, -, h3⟩ := hown
  rcases h3 with h3 | ⟨b, rfl, hlt, hcell⟩
  · omega
  go_wp2_with fail
  refine (span_some b len0 A N w1 hl hN hA).mono ?_
  rintro e w2 ⟨rfl, rfl⟩
  have HC := hide hcell
  have hfit : decide ((A : Int) + (N : Int) ≤ (len0 : Int)) = true := decide_eq_true (by omega)
  clear hcell
  go_wp2
  go_loopw [12] (fun i wr => ∃ k : Nat, k ≤ N ∧ i = .int .u64 k ∧ Below w1.heap.size w1 wr) (fun i _ => N - (intOf i).toNat)
  case atStart => exact ⟨0, Nat.zero_le _, rfl, Below.refl _ _⟩
  case round =>
    obtain ⟨k, hk, rfl, hbel⟩ := hrel
    by_cases hlt2 : k < N
    · have hck : wr.cell? ⟨b, A + k, none⟩ = some (.int .u8 (zs.getD (A + k) 0)) := (hbel.cell (p := ⟨b, A + k, none⟩) hlt).trans (HC.out (A + k) (by omega))
      generalize zs.getD (A + k) 0 = c at hck
      have h1 : (k : Int) < (N : Int) := by omega
      have h2 : (A : Int) + (k : Int) < (len0 : Int) := by omega
      go_wp2
      go_quiet (fail)
      go_wp2
      go_roundw
      case rel => exact ⟨k + 1, by omega, by go_num, below_drewN hbel _⟩
      case measure => simp [intOf]; omega
    · go_wp2
      go_ret
      exact ⟨rfl, hb.trans (hbel.mono hb.size)⟩

theorem sm_any (a0 : Option Addr) (len0 cap0 : Nat) (z0 : List Int) (x n : Int) (w : World) (h : Came .u8 w a0 len0 cap0 z0) (hx : (Lit.int .u64 x).wf = true) (hn : (Lit.int .u64 n).wf = true) :
    Calls Try.prog 4 #[.slice a0 len0 cap0, .int .u64 x, .int .u64 n] w fun e w' => e = .returned (.bool true) ∧ Below w.heap.size w w' := by
  obtain ⟨hx0, hx1⟩ := bounds_u64 hx
  obtain ⟨hn0, hn1⟩ := bounds_u64 hn
  by_cases hl : len0 ≤ 1048576
  · by_cases ha : (len0 : Int) < x
    · exact sm_out a0 len0 cap0 z0 x n w h hl hx0 hx1 hn0 hn1 (fun a w => span_above a len0 x n w hl ha) (by omega)
    · by_cases hb : (len0 : Int) - x < n
      · exact sm_out a0 len0 cap0 z0 x n w h hl hx0 hx1 hn0 hn1 (fun a w => span_beyond a len0 x n w hl hx0 (by omega) hb) (by omega)
      · obtain ⟨A, rfl⟩ : ∃ A : Nat, x = A := ⟨x.toNat, by omega⟩
        obtain ⟨N, rfl⟩ : ∃ N : Nat, n = N := ⟨n.toNat, by omega⟩
        by_cases h0 : N = 0
        · subst h0
          exact sm_none a0 len0 cap0 z0 A w h hl (by omega)
        · exact sm_some a0 len0 cap0 z0 A N w h hl (by omega) (by omega)
  · exact sm_long a0 len0 cap0 x n w h.max hl

end Go.Proofs.Qxb6601712a
