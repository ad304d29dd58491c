/-
  THE WALKS OF FnPartsByPrecedence.
-/
import Derived.Test.Qxb6601755aProg
import Derived.WalkKit
import Derived.WalkSpells
import Derived.WalkSmall
import Derived.Deep.OwnRows
import Derived.ProofKit
import Derived.OpenShut
import Derived.Deep.QuietTactic
import Derived.BigQuiet
namespace Go.Proofs.Qxb6601755a
open Go.RowKit Go.ChangeShapes Go.WideShapes Go.ChangeAt
set_option linter.unusedVariables false

theorem Try.info3 : (Try.prog.info? 3).map (fun i => (i.zero, i.size, i.bytes)) = some (some (.int .i64 0), 1, 8) := by kernel_rfl

theorem clone_nil (w : World) : Calls Try.prog 9 #[.slice none 0 0] w fun e w' => e = .returned (.slice none 0 0) ∧ w = w' := by
  have hq := fun w => Lib.run_eql_slice_nil (P := Try.prog) w 22 3 none 0 0 0 0 Try.underlying22
  go_enter Try.func9, Try.ntmps9
  go_wp2
  go_ret
  exact ⟨rfl, rfl⟩

theorem row_step {zs : List Int} {c : Int} {k : Nat} (hc : c = zs.getD k 0) (i : Nat) : (if i = k then Value.int .i64 c else if i < k then .int .i64 (zs.getD i 0) else .int .i64 0) = if i < k + 1 then .int .i64 (zs.getD i 0) else .int .i64 0 := by
  by_cases e : i = k
  · subst e
    rw [if_pos rfl, if_pos (by omega), hc]
  · rw [if_neg e]
    by_cases h : i < k
    · rw [if_pos h, if_pos (by omega)]
    · rw [if_neg h, if_neg (by omega)]

set_option maxHeartbeats 1000000 in
theorem clone_row (b off len cap : Nat) (zs : List Int) (w : World) (hm : len ≤ 1048576) (hb : 0 < len → b < w.heap.size)
    (hc : ∀ i, i < len → w.cell? ⟨b, off + i, none⟩ = some (.int .i64 (zs.getD i 0))) :
    Calls Try.prog 9 #[.slice (some ⟨b, off, none⟩) len cap] w fun e w' => e = .returned (.slice (some ⟨w.heap.size, 0, none⟩) len len) ∧ w'.heap.size = w.heap.size + 1 ∧ w'.rowIs w.heap.size 3 len (fun i => .int .i64 (zs.getD i 0)) ∧ Below w.heap.size w w' := by
  have hq := fun w => Lib.run_eql_slice_nil (P := Try.prog) w 22 3 (some ⟨b, off, none⟩) len cap 0 0 Try.underlying22
  have hmk := fun w => run_make_row' (P := Try.prog) 22 3 (.int .i64 0) 8 Try.underlying22 Try.info3 rfl .i64 .i64 len (by omega) (by omega) w
  go_enter Try.func9, Try.ntmps9
  go_wp2
  go_loopw [4] (fun i wr => ∃ k : Nat, k ≤ len ∧ i = .int .i64 k ∧ wr.heap.size = w.heap.size + 1 ∧ wr.rowIs w.heap.size 3 len (fun i => if i < k then .int .i64 (zs.getD i 0) else .int .i64 0) ∧ Below w.heap.size w wr) (fun i _ => len - (intOf i).toNat)
  case atStart => exact ⟨0, Nat.zero_le _, rfl, by simp, (World.rowIs_made w _ len 3).congr (fun i _ => by simp), (Below.refl _ _).alloc (Nat.le_refl _) _⟩
  case round =>
    obtain ⟨k, hk, rfl, hsz, hrow, hbel⟩ := hrel
    by_cases hlt : k < len
    · have hck : wr.cell? ⟨b, off + k, none⟩ = some (.int .i64 (zs.getD k 0)) := (hbel.cell (p := ⟨b, off + k, none⟩) (hb (by omega))).trans (hc k hlt)
      obtain ⟨c, hcc⟩ : ∃ c, c = zs.getD k 0 := ⟨_, rfl⟩
      rw [← hcc] at hck
      have HC : Hid (c = zs.getD k 0) := hcc
      have hdst : wr.cell? ⟨w.heap.size, k, none⟩ = some (.int .i64 0) := by rw [hrow.cell hlt]; simp
      have hfr : wr.frozen? ⟨w.heap.size, k, none⟩ = false := hrow.frozen k
      have HR : Hid (wr.rowIs w.heap.size 3 len (fun i => if i < k then .int .i64 (zs.getD i 0) else .int .i64 0)) := hrow
      clear hcc hc hrow hq hmk
      go_wp2
      go_roundw
      case rel =>
        refine ⟨k + 1, by omega, by go_num, by simp [hsz], (HR.out.set k _).congr (fun i _ => ?_), hbel.setCell (Nat.le_refl _) _⟩
        exact row_step HC.out i
      case measure => simp [intOf]; omega
    · clear hc hq hmk
      go_wp2
      go_ret
      refine ⟨rfl, hsz, hrow.congr (fun i hi => ?_), hbel⟩
      rw [if_pos (by omega)]

theorem clone_zero (x : Addr) (cap : Nat) (w : World) :
    Calls Try.prog 9 #[.slice (some x) 0 cap] w fun e w' => e = .returned (.slice (some ⟨w.heap.size, 0, none⟩) 0 0) ∧ Below w.heap.size w w' := by
  have hq := fun w => Lib.run_eql_slice_nil (P := Try.prog) w 22 3 (some x) 0 cap 0 0 Try.underlying22
  have hmk : ∀ w, (Instr.makeSlice 22 (.int .i64 0) (.int .i64 0)).run Try.prog w = .ok (.slice (some ⟨w.heap.size, 0, none⟩) 0 0) (w.alloc (.cells (madeCells #[.int .i64 0] 0) 3)) := fun w => run_make_row' (P := Try.prog) 22 3 (.int .i64 0) 8 Try.underlying22 Try.info3 rfl .i64 .i64 0 (by omega) (by omega) w
  go_enter Try.func9, Try.ntmps9
  go_wp2
  refine wp_loop_rounds 1 ?_
  rw [rounds_succ]
  go_wp2
  go_ret
  exact ⟨rfl, (Below.refl _ _).alloc (Nat.le_refl _) _⟩

/-- A slice of integers that came in (the shell's own 'IsRow', spelt here once for all). -/
def Came (k : IntKind) (w : World) (a : Option Addr) (len cap : Nat) (zs : List Int) : Prop :=
  (a = none ∧ len = 0 ∧ cap = 0 ∧ zs = []) ∨
  ∃ x, a = some x ∧ len ≤ cap ∧ cap ≤ maxLen ∧ zs.length = cap ∧ (∀ i, i < zs.length → w.cell? (x.add i) = some (.int k (zs.getD i 0))) ∧ ∀ n ∈ zs, (Lit.int k n).wf = true

theorem getD_take (zs : List Int) (n i : Nat) (h : i < n) : (zs.take n).getD i 0 = zs.getD i 0 := by
  simp [List.getD, h]

theorem cell_lt {w : World} {b off : Nat} {v : Value} (h : w.cell? ⟨b, off, none⟩ = some v) : b < w.heap.size := by
  by_cases hb : b < w.heap.size
  · exact hb
  · simp [World.cell?, hb] at h

/-- cloneBytes of a slice that is not empty. -/
theorem clone_pos (a : Option Addr) (len cap : Nat) (zs : List Int) (w : World) (h : Came .i64 w a len cap zs) (hm : len ≤ 1048576) (h0 : 0 < len) :
    Calls Try.prog 9 #[.slice a len cap] w fun e w' => e = .returned (.slice (some ⟨w.heap.size, 0, none⟩) len len) ∧ w'.heap.size = w.heap.size + 1 ∧ w'.rowIs w.heap.size 3 len (fun i => .int .i64 ((zs.take len).getD i 0)) ∧ Below w.heap.size w w' := by
  rcases h with ⟨rfl, rfl, rfl, rfl⟩ | ⟨x, rfl, hl, hcm, hz, hc, hwf⟩
  · omega
  · obtain ⟨b, off, spot⟩ := x
    have hspot : spot = none := by simpa [Addr.add] using World.cell?_spot (hc 0 (by omega))
    subst hspot
    have hc' : ∀ i, i < len → w.cell? ⟨b, off + i, none⟩ = some (.int .i64 (zs.getD i 0)) := fun i hi => by rw [← add_plain]; exact hc i (by omega)
    have hlt : b < w.heap.size := cell_lt (hc' 0 (by omega))
    refine (clone_row b off len cap zs w hm (fun _ => hlt) hc').mono ?_
    rintro e w' ⟨rfl, hsz, hrow, hb⟩
    exact ⟨rfl, hsz, hrow.congr (fun i hi => by rw [getD_take zs len i hi]), hb⟩

theorem Came.take_length {w : World} {a : Option Addr} {len cap : Nat} {zs : List Int} (h : Came .i64 w a len cap zs) : (zs.take len).length = len := by
  rcases h with ⟨rfl, rfl, rfl, rfl⟩ | ⟨x, rfl, hl, hcm, hz, hc, hwf⟩
  · simp
  · simp; omega

theorem Came.max {w : World} {a : Option Addr} {len cap : Nat} {zs : List Int} (h : Came .i64 w a len cap zs) : len ≤ maxLen := by
  rcases h with ⟨rfl, rfl, rfl, rfl⟩ | ⟨x, rfl, hl, hcm, hz, hc, hwf⟩
  · exact Nat.zero_le _
  · omega

/-- A slice of bytes of the call's own: the whole of its array. -/
def Own (w : World) (a : Option Addr) (len : Nat) (zs : List Int) : Prop :=
  zs.length = len ∧
  (len = 0 ∨ ∃ b, a = some ⟨b, 0, none⟩ ∧ b < w.heap.size ∧ ∀ i, i < len → w.cell? ⟨b, i, none⟩ = some (.int .i64 (zs.getD i 0)))

theorem Own.below {w w' : World} {a : Option Addr} {len : Nat} {zs : List Int} (h : Own w a len zs) (hb : Below w.heap.size w w') : Own w' a len zs := by
  obtain ⟨h1, h3⟩ := h
  refine ⟨h1, ?_⟩
  rcases h3 with h3 | ⟨b, ha, hlt, hc⟩
  · exact .inl h3
  · exact .inr ⟨b, ha, Nat.lt_of_lt_of_le hlt hb.size, fun i hi => (hb.cell (p := ⟨b, i, none⟩) hlt).trans (hc i hi)⟩

theorem clone_own (a : Option Addr) (len cap : Nat) (zs : List Int) (w : World) (h : Came .i64 w a len cap zs) (hm : len ≤ 1048576) :
    Calls Try.prog 9 #[.slice a len cap] w fun e w' => ∃ a', e = .returned (.slice a' len len) ∧ Own w' a' len (zs.take len) ∧ Below w.heap.size w w' := by
  by_cases h0 : 0 < len
  · refine (clone_pos a len cap zs w h hm h0).mono ?_
    rintro e w' ⟨rfl, hsz, hrow, hb⟩
    exact ⟨_, rfl, ⟨h.take_length, .inr ⟨_, rfl, by omega, fun i hi => hrow.cell hi⟩⟩, hb⟩
  · have : len = 0 := by omega
    subst this
    rcases h with ⟨rfl, _, rfl, rfl⟩ | ⟨x, rfl, hl, hcm, hz, hc, hwf⟩
    · refine (clone_nil w).mono ?_
      rintro e w' ⟨rfl, rfl⟩
      exact ⟨_, rfl, ⟨rfl, .inl rfl⟩, Below.refl _ _⟩
    · refine (clone_zero x cap w).mono ?_
      rintro e w' ⟨rfl, hb⟩
      exact ⟨_, rfl, ⟨by simp, .inl rfl⟩, hb⟩


theorem Came.below {w w' : World} {a : Option Addr} {len cap : Nat} {zs : List Int} (h : Came .i64 w a len cap zs) (hb : Below w.heap.size w w') : Came .i64 w' a len cap zs := by
  rcases h with h | ⟨x, rfl, hl, hcm, hz, hc, hwf⟩
  · exact .inl h
  · refine .inr ⟨x, rfl, hl, hcm, hz, fun i hi => ?_, hwf⟩
    have h1 := hc i hi
    obtain ⟨b, off, spot⟩ := x
    have hspot : spot = none := by simpa [Addr.add] using World.cell?_spot (hc 0 (by omega))
    subst hspot
    rw [add_plain] at h1 ⊢
    rw [hb.cell (p := ⟨b, off + i, none⟩) (cell_lt h1)]
    exact h1

/-! ### the guards -/
theorem zz7 (n f k : Int) (a3 a4 a5 : Option Addr) (l3 c3 l4 c4 l5 c5 : Nat) (p q s t u : Int) (w : World) (h3 : l3 ≤ maxLen) (h4 : l4 ≤ maxLen) (h5 : l5 ≤ maxLen) :
    Calls Try.prog 7 #[.int .i64 n, .int .i64 f, .int .i64 k, .slice a3 l3 c3, .slice a4 l4 c4, .slice a5 l5 c5, .int .i64 p, .int .i64 q, .int .u64 s, .int .i64 t, .int .i64 u] w fun e w' => e = .returned (.bool (decide (l3 + l4 + l5 ≤ 1048576))) ∧ w = w' := by
  unfold maxLen at h3 h4 h5
  by_cases h : l3 + l4 + l5 ≤ 1048576
  · rw [decide_eq_true h]
    go_enter Try.func7, Try.ntmps7
    go_wp2
    go_ret
    exact ⟨rfl, rfl⟩
  · rw [decide_eq_false h]
    by_cases e3 : l3 ≤ 1048576
    · by_cases e4 : l4 ≤ 1048576
      · by_cases e34 : l3 + l4 ≤ 1048576
        · by_cases e5 : l5 ≤ 1048576
          all_goals
            go_enter Try.func7, Try.ntmps7
            go_wp2
            go_ret
            exact ⟨rfl, rfl⟩
        · go_enter Try.func7, Try.ntmps7
          go_wp2
          go_ret
          exact ⟨rfl, rfl⟩
      · go_enter Try.func7, Try.ntmps7
        go_wp2
        go_ret
        exact ⟨rfl, rfl⟩
    · go_enter Try.func7, Try.ntmps7
      go_wp2
      go_ret
      exact ⟨rfl, rfl⟩

/-! ### simB1IdsIn -/
def inB (n z : Int) : Bool := !(decide (z < 0) || decide (n ≤ z))
def allIn (n : Int) (zs : List Int) : Bool := zs.all (inB n)

theorem getD_drop (zs : List Int) (k : Nat) (h : k < zs.length) : zs.drop k = zs.getD k 0 :: zs.drop (k + 1) := by
  rw [List.drop_eq_getElem_cons h]
  simp [List.getD, h]

theorem ret_bool {a b : Bool} (h : a = b) : Ending.returned (.bool a) = .returned (.bool b) := by rw [h]

set_option maxHeartbeats 1000000 in
theorem ids_row (b off len cap : Nat) (zs : List Int) (n : Int) (w : World) (hlen : zs.length = len) (hm : len ≤ 1048577)
    (hc : ∀ i, i < len → w.cell? ⟨b, off + i, none⟩ = some (.int .i64 (zs.getD i 0))) :
    Calls Try.prog 8 #[.slice (some ⟨b, off, none⟩) len cap, .int .i64 n] w fun e w' => e = .returned (.bool (allIn n zs)) ∧ w = w' := by
  go_enter Try.func8, Try.ntmps8
  go_wp2
  go_loop [5] (fun i => ∃ (k : Nat), k ≤ len ∧ i = .int .i64 k ∧ Hid (allIn n (zs.drop k) = allIn n zs)) (fun i => len - (intOf i).toNat)
  case atStart => exact ⟨0, Nat.zero_le _, rfl, rfl⟩
  case round =>
    obtain ⟨k, hk, rfl, HP⟩ := hrel
    by_cases hlt : k < len
    · have hck := hc k hlt
      have hdr := getD_drop zs k (by omega)
      obtain ⟨c, hcc⟩ : ∃ c, c = zs.getD k 0 := ⟨_, rfl⟩
      rw [← hcc] at hck hdr
      have HE : Hid ((inB n c && allIn n (zs.drop (k + 1))) = allIn n zs) := by have h := HP.out; rw [hdr] at h; show _ = _; rw [← h]; rfl
      clear hdr hcc hc HP
      by_cases h1 : c < 0
      · have HF : Hid (allIn n zs = false) := by show _ = _; rw [← HE.out]; simp [inB, h1]
        go_wp2
        go_ret
        exact ⟨ret_bool HF.out.symm, rfl⟩
      · by_cases h2 : n ≤ c
        · have HF : Hid (allIn n zs = false) := by show _ = _; rw [← HE.out]; simp [inB, h2]
          go_wp2
          go_ret
          exact ⟨ret_bool HF.out.symm, rfl⟩
        · have HF : Hid (allIn n (zs.drop (k + 1)) = allIn n zs) := by show _ = _; rw [← HE.out]; simp [inB, h2, h1]
          go_wp2
          go_round
          case rel => exact ⟨k + 1, by omega, by go_num, HF⟩
          case measure => simp [intOf]; omega
    · have HP' : Hid (allIn n zs = true) := by
        have := HP.out
        rw [List.drop_of_length_le (by omega)] at this
        exact this.symm
      clear hc
      go_wp2
      go_ret
      exact ⟨ret_bool HP'.out.symm, rfl⟩

theorem ids_zero (a : Option Addr) (cap : Nat) (n : Int) (w : World) :
    Calls Try.prog 8 #[.slice a 0 cap, .int .i64 n] w fun e w' => e = .returned (.bool true) ∧ w = w' := by
  go_enter Try.func8, Try.ntmps8
  go_wp2
  refine wp_loop_rounds 1 ?_
  rw [rounds_succ]
  go_wp2
  go_ret
  exact ⟨rfl, rfl⟩

theorem ids_any (a : Option Addr) (len cap : Nat) (zs : List Int) (n : Int) (w : World) (h : Came .i64 w a len cap zs) (hm : len ≤ 1048576) :
    Calls Try.prog 8 #[.slice a len cap, .int .i64 n] w fun e w' => e = .returned (.bool (allIn n (zs.take len))) ∧ w = w' := by
  by_cases h0 : len = 0
  · subst h0
    exact ids_zero a cap n w
  · rcases h with ⟨rfl, rfl, rfl, rfl⟩ | ⟨x, rfl, hl, hcm, hz, hc, hwf⟩
    · omega
    · obtain ⟨b, off, spot⟩ := x
      have hspot : spot = none := by simpa [Addr.add] using World.cell?_spot (hc 0 (by omega))
      subst hspot
      refine ids_row b off len cap (zs.take len) n w (by simp; omega) (by omega) (fun i hi => ?_)
      rw [getD_take zs len i hi, ← add_plain]
      exact hc i (by omega)

/-! ### parts -/
theorem hide {p : Prop} (h : p) : Hid p := h

theorem Try.info35 : (Try.prog.info? 35).map (fun i => (i.zero, i.size, i.bytes)) = some (some (.int .i64 0), 1, 8) := by kernel_rfl
theorem Try.info4 : (Try.prog.info? 4).map (fun i => (i.zero, i.size, i.bytes)) = some (some (.bool false), 1, 1) := by kernel_rfl

/-- the row f once v is stored at each of the first k indices of zs -/
def mk (f : Nat → Value) (zs : List Int) (v : Value) (k : Nat) (i : Nat) : Value := if (i : Int) ∈ zs.take k then v else f i

theorem mk_zero (f : Nat → Value) (zs : List Int) (v : Value) (i : Nat) : mk f zs v 0 i = f i := by simp [mk]

theorem mk_step {f : Nat → Value} {zs : List Int} {v : Value} {k m : Nat} (hk : k < zs.length) (hc : (m : Int) = zs.getD k 0) (i : Nat) : (if i = m then v else mk f zs v k i) = mk f zs v (k + 1) i := by
  unfold mk
  rw [List.take_succ_eq_append_getElem hk]
  have e : zs[k] = (m : Int) := by rw [hc]; simp [List.getD, hk]
  rw [e]
  by_cases h : i = m
  · subst h
    rw [if_pos rfl, if_pos (by simp)]
  · rw [if_neg h]
    by_cases h2 : (i : Int) ∈ zs.take k
    · rw [if_pos h2, if_pos (by simp [h2])]
    · rw [if_neg h2, if_neg (by simp [h2]; omega)]

theorem mk_all {f : Nat → Value} {zs : List Int} {v : Value} {k : Nat} (hk : zs.length ≤ k) (i : Nat) : mk f zs v k i = if (i : Int) ∈ zs then v else f i := by
  unfold mk
  rw [List.take_of_length_le hk]

theorem allIn_get {N : Nat} {zs : List Int} (h : allIn N zs = true) {k : Nat} (hk : k < zs.length) : ∃ m : Nat, zs.getD k 0 = (m : Int) ∧ m < N := by
  have hm : zs.getD k 0 ∈ zs := by simp [List.getD, hk]
  have := List.all_eq_true.1 h _ hm
  generalize zs.getD k 0 = z at *
  simp [inB] at this
  exact ⟨z.toNat, by omega, by omega⟩

/-- where an element of an owned slice lies -/
theorem Own.at {w : World} {a : Option Addr} {len : Nat} {zs : List Int} (h : Own w a len zs) {k : Nat} (hk : k < len) : ∃ b, a = some ⟨b, 0, none⟩ ∧ b < w.heap.size ∧ w.cell? ⟨b, k, none⟩ = some (.int .i64 (zs.getD k 0)) := by
  rcases h.2 with h | ⟨b, ha, hb, hc⟩
  · omega
  · exact ⟨b, ha, hb, hc k hk⟩

/-- what parts answers, by id -/
def partOf (cs bs : List Int) (i : Nat) : Value := if (i : Int) ∈ bs then .int .i64 2 else if (i : Int) ∈ cs then .int .i64 1 else .int .i64 0

set_option maxHeartbeats 2000000 in
theorem parts_any (N : Nat) (f k : Int) (ac ab : Option Addr) (lc lb : Nat) (cs bs : List Int) (vt : Value) (p q s t u : Int) (w : World) (hN : N ≤ 65536) (hlc : lc ≤ 131072) (hlb : lb ≤ 131072)
    (hvt : ∃ a l c, vt = .slice a l c) (hc : Own w ac lc cs) (hb : Own w ab lb bs) (ic : allIn N cs = true) (ib : allIn N bs = true) :
    Calls Try.prog 22 #[.agg #[.int .i64 N, .int .i64 f, .int .i64 k, .slice ac lc lc, .slice ab lb lb, vt, .int .i64 p, .int .i64 q, .int .u64 s, .int .i64 t, .int .i64 u]] w fun e w' =>
      ∃ g, e = .returned (.slice (some ⟨g, 0, none⟩) N N) ∧ w.heap.size ≤ g ∧ w'.rowIs g 35 N (partOf cs bs) ∧ Below w.heap.size w w' := by
  obtain ⟨at_, lt_, ct_, rfl⟩ := hvt
  have hmk := fun w => run_make_row' (P := Try.prog) 32 35 (.int .i64 0) 8 Try.underlying32 Try.info35 rfl .i64 .i64 N (by omega) (by omega) w
  go_enter Try.func22, Try.ntmps22
  go_wp2
  have hmade := World.rowIs_made (w.alloc (.cells #[.int .i64 N, .int .i64 f, .int .i64 k, .slice ac lc lc, .slice ab lb lb, .slice at_ lt_ ct_, .int .i64 p, .int .i64 q, .int .u64 s, .int .i64 t, .int .i64 u] 31)) (.int .i64 0) N 35
  rw [show (w.alloc (.cells #[.int .i64 N, .int .i64 f, .int .i64 k, .slice ac lc lc, .slice ab lb lb, .slice at_ lt_ ct_, .int .i64 p, .int .i64 q, .int .u64 s, .int .i64 t, .int .i64 u] 31)).heap.size = w.heap.size + 1 by simp] at hmade
  have hbel0 : Below w.heap.size w ((w.alloc (.cells #[.int .i64 N, .int .i64 f, .int .i64 k, .slice ac lc lc, .slice ab lb lb, .slice at_ lt_ ct_, .int .i64 p, .int .i64 q, .int .u64 s, .int .i64 t, .int .i64 u] 31)).alloc (.cells (madeCells #[.int .i64 0] N) 35)) := ((Below.refl _ _).alloc (Nat.le_refl _) _).alloc (by simp) _
  have hcell0 : ((w.alloc (.cells #[.int .i64 N, .int .i64 f, .int .i64 k, .slice ac lc lc, .slice ab lb lb, .slice at_ lt_ ct_, .int .i64 p, .int .i64 q, .int .u64 s, .int .i64 t, .int .i64 u] 31)).alloc (.cells (madeCells #[.int .i64 0] N) 35)).cell? ⟨w.heap.size, 4, none⟩ = some (.slice ab lb lb) := by
    rw [World.cell?_alloc_past _ _ _ (by simp), World.cell?_alloc_at _ _ _ _ rfl]; rfl
  have HC := hide hc
  have HB := hide hb
  clear hmk hc hb
  go_loopw [15] (fun i wr => ∃ j : Nat, j ≤ lc ∧ i = .int .i64 j ∧ wr.rowIs (w.heap.size + 1) 35 N (mk (fun _ => .int .i64 0) cs (.int .i64 1) j) ∧ wr.cell? ⟨w.heap.size, 4, none⟩ = some (.slice ab lb lb) ∧ Below w.heap.size w wr) (fun i _ => lc - (intOf i).toNat)
  case atStart => exact ⟨0, Nat.zero_le _, rfl, hmade.congr (fun i _ => by rw [mk_zero]), hcell0, hbel0⟩
  case round =>
    clear hmade hbel0 hcell0
    obtain ⟨j, hj, rfl, hrow, hcb, hbel⟩ := hrel
    have hlen := HC.out.1
    by_cases hlt : j < lc
    · obtain ⟨b, rfl, hblt, hcl⟩ := HC.out.at hlt
      obtain ⟨m, hm, hmN⟩ := allIn_get ic (k := j) (by omega)
      have hck : wr.cell? ⟨b, j, none⟩ = some (.int .i64 m) := by rw [← hm]; exact (hbel.cell (p := ⟨b, j, none⟩) hblt).trans hcl
      have hdst : wr.cell? ⟨w.heap.size + 1, m, none⟩ = some (mk (fun _ => .int .i64 0) cs (.int .i64 1) j m) := hrow.cell hmN
      have hfr : wr.frozen? ⟨w.heap.size + 1, m, none⟩ = false := hrow.frozen m
      have HR := hide hrow
      have HM := hide hm
      have HB4 := hide hcb
      generalize mk (fun _ => .int .i64 0) cs (.int .i64 1) j m = old at hdst
      clear hrow hm hcl ic ib hcb
      go_wp2
      go_roundw
      case rel => exact ⟨j + 1, by omega, by go_num, (HR.out.set m _).congr (fun i _ => mk_step (by omega) HM.out.symm i), (((Below.refl (w.heap.size + 1) wr).setCell (p := ⟨w.heap.size + 1, m, none⟩) (Nat.le_refl _) _).cell (p := ⟨w.heap.size, 4, none⟩) (Nat.lt_succ_self _)).trans HB4.out, hbel.setCell (by simp) _⟩
      case measure => simp [intOf]; omega
    · have HR := hide (hrow.congr (fun i _ => mk_all (by omega) i))
      have IB := hide ib
      clear hrow ic ib
      go_wp2
      go_loopw [26] (fun i wv => ∃ j : Nat, j ≤ lb ∧ i = .int .i64 j ∧ wv.rowIs (w.heap.size + 1) 35 N (mk (fun i => if (i : Int) ∈ cs then .int .i64 1 else .int .i64 0) bs (.int .i64 2) j) ∧ Below w.heap.size w wv) (fun i _ => lb - (intOf i).toNat)
      case atStart => exact ⟨0, Nat.zero_le _, rfl, HR.out.congr (fun i _ => by rw [mk_zero]), hbel⟩
      case round =>
        clear HR hcb hbel
        obtain ⟨j2, hj2, rfl, hrow, hbel⟩ := hrel
        have hlen2 := HB.out.1
        by_cases hlt2 : j2 < lb
        · obtain ⟨b, rfl, hblt, hcl⟩ := HB.out.at hlt2
          obtain ⟨m, hm, hmN⟩ := allIn_get IB.out (k := j2) (by omega)
          have hck : wr.cell? ⟨b, j2, none⟩ = some (.int .i64 m) := by rw [← hm]; exact (hbel.cell (p := ⟨b, j2, none⟩) hblt).trans hcl
          have hdst : wr.cell? ⟨w.heap.size + 1, m, none⟩ = some (mk (fun i => if (i : Int) ∈ cs then .int .i64 1 else .int .i64 0) bs (.int .i64 2) j2 m) := hrow.cell hmN
          have hfr : wr.frozen? ⟨w.heap.size + 1, m, none⟩ = false := hrow.frozen m
          have HR := hide hrow
          have HM := hide hm
          generalize mk (fun i => if (i : Int) ∈ cs then .int .i64 1 else .int .i64 0) bs (.int .i64 2) j2 m = old at hdst
          clear hrow hm hcl
          go_wp2
          go_roundw
          case rel => exact ⟨j2 + 1, by omega, by go_num, (HR.out.set m _).congr (fun i _ => mk_step (by omega) HM.out.symm i), hbel.setCell (by simp) _⟩
          case measure => simp [intOf]; omega
        · have HR := hide (hrow.congr (fun i _ => mk_all (by omega) i))
          clear hrow
          go_wp2
          go_ret
          exact ⟨_, rfl, by simp, HR.out, hbel⟩

end Go.Proofs.Qxb6601755a
