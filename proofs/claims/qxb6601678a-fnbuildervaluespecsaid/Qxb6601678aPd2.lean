/-
  THE WALKS OF THE SHARED FUNCTIONS (2): isDigit, allDigits, stripZeros, decimalOf, sameBytes, digitsAtMost.
-/
import Derived.Test.Qxb6601678aPd1
import Derived.Deep.QuietTactic
import Derived.BigQuiet
import Derived.WalkSmall
namespace Go.Proofs.Qxb6601678a
open Go.RowKit Go.ChangeShapes Go.WideShapes Go.ChangeAt
set_option linter.unusedVariables false

theorem ret_bool {a b : Bool} (h : a = b) : Ending.returned (.bool a) = .returned (.bool b) := by rw [h]

theorem isDigit_any (c : Int) (w : World) : Calls Try.prog 32 #[.int .u8 c] w fun e w' => e = .returned (.bool (Plain.isD c)) ∧ w = w' := by
  unfold Plain.isD
  by_cases h1 : 48 ≤ c
  · by_cases h2 : c ≤ 57
    · go_enter Try.func32, Try.ntmps32
      go_wp2
      go_ret
      exact ⟨by simp [h1, h2], rfl⟩
    · have e : (decide (48 ≤ c) && decide (c ≤ 57)) = false := by simp; omega
      go_enter Try.func32, Try.ntmps32
      go_wp2
      go_ret
      exact ⟨ret_bool (by simp [h2]), rfl⟩
  · have e : (decide (48 ≤ c) && decide (c ≤ 57)) = false := by simp; omega
    rw [e]
    go_enter Try.func32, Try.ntmps32
    go_wp2
    go_ret
    exact ⟨rfl, rfl⟩


set_option maxHeartbeats 1000000 in
theorem allDigits_row (b off len cap : Nat) (zs : List Int) (w : World) (hlen : zs.length = len) (hm : len ≤ 1048577) (hpos : 0 < len)
    (hc : ∀ i, i < len → w.cell? ⟨b, off + i, none⟩ = some (.int .u8 (zs.getD i 0))) :
    Calls Try.prog 13 #[.slice (some ⟨b, off, none⟩) len cap] w fun e w' => e = .returned (.bool (Plain.allD zs)) ∧ w = w' := by
  have hz : ((len : Int) == 0) = false := by simp; omega
  go_enter Try.func13, Try.ntmps13
  go_wp2
  go_loop [3] (fun i => ∃ (k : Nat), k ≤ len ∧ i = .int .i64 k ∧ Hid (Plain.allD (zs.drop k) = Plain.allD zs)) (fun i => len - (intOf i).toNat)
  case atStart => exact ⟨0, Nat.zero_le _, rfl, rfl⟩
  case round =>
    obtain ⟨k, hk, rfl, HP⟩ := hrel
    by_cases hlt : k < len
    · have hck := hc k hlt
      have hdr := getD_drop zs k (by omega)
      obtain ⟨c, hcc⟩ : ∃ c, c = zs.getD k 0 := ⟨_, rfl⟩
      rw [← hcc] at hck hdr
      have HD : Hid (zs.drop k = c :: zs.drop (k + 1)) := hdr
      clear hdr hcc hc
      cases hd : Plain.isD c with
      | true =>
        go_wp2_with (go_at_call 32; refine (isDigit_any _ _).mono ?_; rintro e w' ⟨rfl, rfl⟩)
        go_round
        case rel => exact ⟨k + 1, by omega, by go_num, by have h := HP.out; rw [HD.out] at h; show _ = _; rw [← h]; simp [Plain.allD, hd]⟩
        case measure => simp [intOf]; omega
      | false =>
        go_wp2_with (go_at_call 32; refine (isDigit_any _ _).mono ?_; rintro e w' ⟨rfl, rfl⟩)
        go_ret
        exact ⟨ret_bool (by have h := HP.out; rw [HD.out] at h; rw [← h]; simp [Plain.allD, hd]), rfl⟩
    · have HP' : Hid (Plain.allD zs = true) := by
        have := HP.out
        rw [List.drop_of_length_le (by omega)] at this
        exact this.symm
      clear hc
      go_wp2
      go_ret
      exact ⟨ret_bool HP'.out.symm, rfl⟩

theorem allDigits_any (a : Option Addr) (len cap : Nat) (zs : List Int) (w : World) (h : Rd w a len zs) (hm : len ≤ 1048577) :
    Calls Try.prog 13 #[.slice a len cap] w fun e w' => e = .returned (.bool (!zs.isEmpty && Plain.allD zs)) ∧ w = w' := by
  obtain ⟨h1, h2, h3⟩ := h
  by_cases hl : len = 0
  · have hz : zs = [] := List.eq_nil_of_length_eq_zero (by omega)
    subst hz
    subst hl
    go_enter Try.func13, Try.ntmps13
    go_wp2
    go_ret
    exact ⟨rfl, rfl⟩
  · rcases h3 with h3 | ⟨b, off, rfl, _, hc⟩
    · exact absurd h3 hl
    · have hz : zs ≠ [] := by intro e; subst e; simp at h1; omega
      have e : (!zs.isEmpty && Plain.allD zs) = Plain.allD zs := by cases zs with | nil => exact absurd rfl hz | cons => simp
      rw [e]
      exact allDigits_row b off len cap zs w h1 hm (by omega) hc

/-! ### stripZeros -/
theorem strip_zero (a : Option Addr) (w : World) (ha : a = none ∨ ∃ x, a = some x) :
    Calls Try.prog 17 #[.slice a 0 0] w fun e w' => e = .returned (.slice a 0 0) ∧ w = w' := by
  rcases ha with rfl | ⟨x, rfl⟩
  all_goals
    go_enter Try.func17, Try.ntmps17
    go_wp2
    refine wp_loop_rounds 1 ?_
    rw [rounds_succ]
    go_wp2
    go_ret
    exact ⟨rfl, rfl⟩

set_option maxHeartbeats 1000000 in
theorem strip_row (b len : Nat) (zs : List Int) (w : World) (hlen : zs.length = len) (hm : len ≤ 1048577) (hpos : 0 < len)
    (hc : ∀ i, i < len → w.cell? ⟨b, i, none⟩ = some (.int .u8 (zs.getD i 0))) :
    Calls Try.prog 17 #[.slice (some ⟨b, 0, none⟩) len len] w fun e w' => ∃ k, k ≤ len ∧ Plain.strip zs = zs.drop k ∧ e = .returned (.slice (if len = k then some ⟨b, 0, none⟩ else some ⟨b, k, none⟩) (len - k) (len - k)) ∧ w = w' := by
  go_enter Try.func17, Try.ntmps17
  go_wp2
  go_loop [3] (fun i => ∃ (k : Nat), k ≤ len ∧ i = .int .i64 k ∧ Hid (Plain.strip (zs.drop k) = Plain.strip zs)) (fun i => len - (intOf i).toNat)
  case atStart => exact ⟨0, Nat.zero_le _, rfl, rfl⟩
  case round =>
    obtain ⟨k, hk, rfl, HP⟩ := hrel
    by_cases hlt : k < len
    · have hck := hc k hlt
      have hdr := getD_drop zs k (by omega)
      obtain ⟨c, hcc⟩ : ∃ c, c = zs.getD k 0 := ⟨_, rfl⟩
      rw [← hcc] at hck hdr
      have HD : Hid (zs.drop k = c :: zs.drop (k + 1)) := hdr
      clear hdr hcc hc
      by_cases hd : c = 48
      · have HP' : Hid (Plain.strip (zs.drop (k + 1)) = Plain.strip zs) := by
          have h := HP.out; rw [HD.out, Plain.strip, if_pos hd] at h; exact h
        have hd' : (c == 48) = true := by simpa using hd
        clear hd HP HD
        go_wp2
        go_round
        case rel => exact ⟨k + 1, by omega, by go_num, HP'⟩
        case measure => simp [intOf]; omega
      · have HP' : Hid (Plain.strip zs = zs.drop k) := by
          have h := HP.out; rw [HD.out, Plain.strip, if_neg hd] at h; rw [HD.out]; exact h.symm
        have hd' : (c == 48) = false := by simpa using hd
        clear hd HP HD
        go_wp2
        go_ret
        exact ⟨k, hk, HP'.out, by rw [if_neg (by omega)]; rfl, rfl⟩
    · have HP' : Hid (Plain.strip zs = zs.drop k) := by
        have h := HP.out
        rw [List.drop_of_length_le (by omega)] at h ⊢
        exact h.symm
      clear HP hc
      go_wp2
      go_ret
      exact ⟨k, hk, HP'.out, by rw [if_pos (by omega)]; rfl, rfl⟩

/-- A slice of bytes of the call's own: the whole of its array. -/
def Own (w : World) (a : Option Addr) (len : Nat) (zs : List Int) : Prop :=
  zs.length = len ∧ (∀ i, 0 ≤ zs.getD i 0 ∧ zs.getD i 0 ≤ 255) ∧
  (len = 0 ∨ ∃ b, a = some ⟨b, 0, none⟩ ∧ b < w.heap.size ∧ ∀ i, i < len → w.cell? ⟨b, i, none⟩ = some (.int .u8 (zs.getD i 0)))

theorem Own.rd {w : World} {a : Option Addr} {len : Nat} {zs : List Int} (h : Own w a len zs) : Rd w a len zs := by
  obtain ⟨h1, h2, h3⟩ := h
  refine ⟨h1, h2, ?_⟩
  rcases h3 with h3 | ⟨b, ha, hb, hc⟩
  · exact .inl h3
  · exact .inr ⟨b, 0, ha, hb, fun i hi => by rw [Nat.zero_add]; exact hc i hi⟩

theorem Own.below {w w' : World} {a : Option Addr} {len : Nat} {zs : List Int} (h : Own w a len zs) (hb : Below w.heap.size w w') : Own w' a len zs := by
  obtain ⟨h1, h2, h3⟩ := h
  refine ⟨h1, h2, ?_⟩
  rcases h3 with h3 | ⟨b, ha, hlt, hc⟩
  · exact .inl h3
  · exact .inr ⟨b, ha, Nat.lt_of_lt_of_le hlt hb.size, fun i hi => (hb.cell (p := ⟨b, i, none⟩) hlt).trans (hc i hi)⟩

theorem clone_own (a : Option Addr) (len cap : Nat) (zs : List Int) (w : World) (h : Came .u8 w a len cap zs) (hm : len ≤ 1048576) :
    Calls Try.prog 11 #[.slice a len cap] w fun e w' => ∃ a', e = .returned (.slice a' len len) ∧ Own w' a' len (zs.take len) ∧ Below w.heap.size w w' := by
  by_cases h0 : 0 < len
  · refine (clone_pos a len cap zs w h hm h0).mono ?_
    rintro e w' ⟨rfl, hsz, hrow, hb⟩
    exact ⟨_, rfl, ⟨h.take_length, h.bytes, .inr ⟨_, rfl, by omega, fun i hi => hrow.cell hi⟩⟩, hb⟩
  · have : len = 0 := by omega
    subst this
    rcases h with ⟨rfl, _, rfl, rfl⟩ | ⟨x, rfl, hl, hcm, hz, hc, hwf⟩
    · refine (clone_nil w).mono ?_
      rintro e w' ⟨rfl, rfl⟩
      exact ⟨_, rfl, ⟨rfl, by simp, .inl rfl⟩, Below.refl _ _⟩
    · refine (clone_zero x cap w).mono ?_
      rintro e w' ⟨rfl, hb⟩
      exact ⟨_, rfl, ⟨by simp, by simp, .inl rfl⟩, hb⟩

theorem getD_of_drop (zs : List Int) (k i : Nat) : (zs.drop k).getD i 0 = zs.getD (k + i) 0 := by
  simp [List.getD]

theorem strip_any (a : Option Addr) (len : Nat) (zs : List Int) (w : World) (h : Own w a len zs) (hm : len ≤ 1048577) :
    Calls Try.prog 17 #[.slice a len len] w fun e w' => ∃ a' cap', e = .returned (.slice a' (Plain.strip zs).length cap') ∧ Rd w a' (Plain.strip zs).length (Plain.strip zs) ∧ w = w' := by
  obtain ⟨h1, h2, h3⟩ := h
  by_cases hl : len = 0
  · have hz : zs = [] := List.eq_nil_of_length_eq_zero (by omega)
    subst hz
    subst hl
    refine (strip_zero a w (by cases a with | none => exact .inl rfl | some x => exact .inr ⟨x, rfl⟩)).mono ?_
    rintro e w' ⟨rfl, rfl⟩
    exact ⟨_, _, rfl, ⟨rfl, by simp [Plain.strip], .inl rfl⟩, rfl⟩
  · rcases h3 with h3 | ⟨b, rfl, hb, hc⟩
    · exact absurd h3 hl
    · refine (strip_row b len zs w h1 hm (by omega) hc).mono ?_
      rintro e w' ⟨k, hk, hs, rfl, rfl⟩
      have hL : (Plain.strip zs).length = len - k := by rw [hs]; simp [h1]
      rw [hL, hs]
      refine ⟨_, _, rfl, ⟨by simp [h1], fun i => by rw [getD_of_drop]; exact h2 _, ?_⟩, rfl⟩
      by_cases e : len = k
      · exact .inl (by omega)
      · exact .inr ⟨b, k, by rw [if_neg e], hb, fun i hi => by rw [getD_of_drop]; exact hc _ (by omega)⟩

/-! ### decimalOf -/
theorem dec_step {x : Int} {q : Nat} {buf : Nat → Int} (hx : 0 < x) (hq : q + 1 ≤ 20) :
    Plain.dec (q + 1) x ++ (List.range (20 - (q + 1))).map (fun i => buf (q + 1 + i)) =
    Plain.dec q (x / 10) ++ (List.range (20 - q)).map (fun i => if q + i = q then 48 + x % 10 else buf (q + i)) := by
  rw [Plain.dec, if_neg (by omega), List.append_assoc]
  congr 1
  rw [show 20 - q = (20 - (q + 1)) + 1 by omega, List.range_succ_eq_map]
  simp only [List.map_cons, List.map_map, Nat.add_zero, if_true, List.cons_append, List.nil_append]
  congr 1
  apply List.map_congr_left
  intro i _
  simp only [Function.comp]
  rw [if_neg (by omega)]
  congr 1
  omega

theorem pow_le20 {x : Int} {q : Nat} (h : x < 10 ^ (q + 1)) : x / 10 < 10 ^ q := by
  rw [Int.pow_succ] at h
  omega

theorem row_stepf {f : Nat → Int} {c : Int} {k : Nat} (hc : c = f k) (i : Nat) : (if i = k then Value.int .u8 c else if i < k then .int .u8 (f i) else .int .u8 0) = if i < k + 1 then .int .u8 (f i) else .int .u8 0 := by
  by_cases e : i = k
  · subst e
    rw [if_pos rfl, if_pos (by omega), hc]
  · rw [if_neg e]
    by_cases h : i < k
    · rw [if_pos h, if_pos (by omega)]
    · rw [if_neg h, if_neg (by omega)]

theorem ret_slice {a : Option Addr} {n m c d : Nat} (h : n = m) (h' : c = d) : Ending.returned (.slice a n c) = .returned (.slice a m d) := by rw [h, h']

theorem dec_out {x : Int} {p : Nat} {buf : Nat → Int} (h : Plain.dec 20 x = (List.range (20 - p)).map (fun i => buf (p + i))) (hb : ∀ i, 0 ≤ buf i ∧ buf i ≤ 255) :
    (Plain.dec 20 x).length = 20 - p ∧ (∀ i, i < 20 - p → (Plain.dec 20 x).getD i 0 = buf (p + i)) ∧ ∀ i, 0 ≤ (Plain.dec 20 x).getD i 0 ∧ (Plain.dec 20 x).getD i 0 ≤ 255 := by
  rw [h]
  refine ⟨by simp, fun i hi => by simp [List.getD, hi], fun i => ?_⟩
  by_cases hi : i < 20 - p
  · simp [List.getD, hi]; exact hb _
  · simp [List.getD, hi]

/-- the second loop of decimalOf: the digits are copied out -/
structure Dec1 (w wr : World) (x : Int) (p : Nat) (buf : Nat → Int) : Prop where
  size : wr.heap.size = w.heap.size + 1
  row : wr.rowIs w.heap.size 53 20 (fun i => .int .u8 (buf i))
  below : Below w.heap.size w wr
  bytes : ∀ i, 0 ≤ buf i ∧ buf i ≤ 255

theorem dec1_start (w : World) (x : Int) : Dec1 w (w.alloc (Obj.cells
    #[Value.int IntKind.u8 0, Value.int IntKind.u8 0, Value.int IntKind.u8 0, Value.int IntKind.u8 0,
      Value.int IntKind.u8 0, Value.int IntKind.u8 0, Value.int IntKind.u8 0, Value.int IntKind.u8 0,
      Value.int IntKind.u8 0, Value.int IntKind.u8 0, Value.int IntKind.u8 0, Value.int IntKind.u8 0,
      Value.int IntKind.u8 0, Value.int IntKind.u8 0, Value.int IntKind.u8 0, Value.int IntKind.u8 0,
      Value.int IntKind.u8 0, Value.int IntKind.u8 0, Value.int IntKind.u8 0, Value.int IntKind.u8 0]
    53)) x 20 (fun _ => 0) := by
  refine ⟨by simp, World.rowIs_alloc w _ 53 _ (fun i hi => ?_), (Below.refl _ _).alloc (Nat.le_refl _) _, by simp⟩
  simp at hi
  match i, hi with
  | 0, _ | 1, _ | 2, _ | 3, _ | 4, _ | 5, _ | 6, _ | 7, _ | 8, _ | 9, _ | 10, _ | 11, _ | 12, _ | 13, _ | 14, _ | 15, _ | 16, _ | 17, _ | 18, _ | 19, _ => rfl
  | n + 20, h => exact absurd h (by omega)

theorem dec1_step {w wr : World} {x d : Int} {q : Nat} {buf : Nat → Int} (h : Dec1 w wr x (q + 1) buf) (hd : 0 ≤ d ∧ d ≤ 255) : Dec1 w (wr.setCell ⟨w.heap.size, q, none⟩ (.int .u8 d)) x q (fun j => if j = q then d else buf j) := by
  refine ⟨by simp [h.size], (h.row.set q _).congr (fun i _ => ?_), h.below.setCell (Nat.le_refl _) _, fun i => ?_⟩
  · by_cases e : i = q
    · simp [e]
    · simp [e]
  · by_cases e : i = q
    · simp [e]; exact hd
    · simp [e]; exact h.bytes i

set_option maxHeartbeats 1000000 in
theorem decimalOf_any (x : Int) (w : World) (h0 : 0 ≤ x) (h1 : x ≤ 18446744073709551615) :
    Calls Try.prog 16 #[.int .u64 x] w fun e w' => ∃ a', e = .returned (.slice a' (Plain.dec 20 x).length (Plain.dec 20 x).length) ∧ Own w' a' (Plain.dec 20 x).length (Plain.dec 20 x) ∧ Below w.heap.size w w' := by
  have hst := dec1_start w x
  go_enter Try.func16, Try.ntmps16
  go_wp2
  go_loopw [0, 4] (fun xv pv wr => ∃ (p : Nat) (y : Int) (buf : Nat → Int), p ≤ 20 ∧ pv = .int .i64 p ∧ xv = .int .u64 y ∧ 0 ≤ y ∧ y ≤ 18446744073709551615 ∧ Hid (y < 10 ^ p) ∧ Dec1 w wr x p buf ∧ Hid (Plain.dec 20 x = Plain.dec p y ++ (List.range (20 - p)).map (fun i => buf (p + i)))) (fun _ pv _ => (intOf pv).toNat)
  case atStart => exact ⟨20, x, _, Nat.le_refl _, rfl, rfl, h0, h1, by have := Plain.big; show x < 10 ^ 20; omega, hst, by show _ = _; simp⟩
  case round =>
    clear hst
    obtain ⟨p, y, buf, hp, rfl, rfl, hy0, hy1, HP, hd, HE⟩ := hrel
    by_cases hy : 0 < y
    · obtain ⟨q, rfl⟩ : ∃ q, p = q + 1 := by
        cases p with
        | zero => have := HP.out; simp at this; omega
        | succ q => exact ⟨q, rfl⟩
      have hdst : wr.cell? ⟨w.heap.size, q, none⟩ = some (.int .u8 (buf q)) := hd.row.cell (by omega)
      have hfr : wr.frozen? ⟨w.heap.size, q, none⟩ = false := hd.row.frozen q
      have HD : Hid (Dec1 w wr x (q + 1) buf) := hd
      clear hd
      go_wp2
      go_roundw
      case rel => exact ⟨q, y / 10, _, by omega, by go_num, by go_num, by omega, by omega, pow_le20 HP.out, dec1_step HD.out (by omega), by show _ = _; rw [HE.out]; exact dec_step hy hp⟩
      case measure => simp [intOf]
    · have hy' : y = 0 := by omega
      have HE' : Hid (Plain.dec 20 x = (List.range (20 - p)).map (fun i => buf (p + i))) := by
        have := HE.out
        rw [Plain.dec_zero p y (by omega)] at this
        exact this
      have hmk : ∀ w, (Instr.makeSlice 22 (.int .i64 (20 - (p : Int))) (.int .i64 (20 - (p : Int)))).run Try.prog w = .ok (.slice (some ⟨w.heap.size, 0, none⟩) (20 - p) (20 - p)) (w.alloc (.cells (madeCells #[.int .u8 0] (20 - p)) 5)) := by
        intro w
        have := run_make_row' (P := Try.prog) 22 5 (.int .u8 0) 1 Try.underlying22 Try.info5 rfl .i64 .i64 (20 - p) (by omega) (by omega) w
        rwa [show ((20 - p : Nat) : Int) = 20 - (p : Int) by omega] at this
      clear hy' HE HP
      have hsz := hd.size
      have HD : Hid (Dec1 w wr x p buf) := hd
      clear hd
      have hmade := World.rowIs_made wr (.int .u8 0) (20 - p) 5
      rw [hsz] at hmade
      have hbel0 : Below (w.heap.size + 1) wr (wr.alloc (.cells (madeCells #[.int .u8 0] (20 - p)) 5)) := (Below.refl _ _).alloc (by omega) _
      go_wp2
      go_loopw [6] (fun i wv => ∃ k : Nat, k ≤ 20 - p ∧ i = .int .i64 k ∧ wv.rowIs (w.heap.size + 1) 5 (20 - p) (fun i => if i < k then .int .u8 (buf (p + i)) else .int .u8 0) ∧ Below (w.heap.size + 1) wr wv) (fun i _ => 20 - p - (intOf i).toNat)
      case atStart => exact ⟨0, Nat.zero_le _, rfl, hmade.congr (fun i hi => by simp), hbel0⟩
      case round =>
        clear hmade hbel0 hmk
        obtain ⟨k, hk, rfl, hrow, hbel⟩ := hrel
        by_cases hlt : k < 20 - p
        · have hck : wr.cell? ⟨w.heap.size, p + k, none⟩ = some (.int .u8 (buf (p + k))) := (hbel.cell (p := ⟨w.heap.size, p + k, none⟩) (Nat.lt_succ_self _)).trans (HD.out.row.cell (by omega))
          obtain ⟨c, hcc⟩ : ∃ c, c = buf (p + k) := ⟨_, rfl⟩
          rw [← hcc] at hck
          have HC : Hid (c = buf (p + k)) := hcc
          have hdst : wr.cell? ⟨w.heap.size + 1, k, none⟩ = some (.int .u8 0) := by rw [hrow.cell (by omega)]; simp
          have hfr : wr.frozen? ⟨w.heap.size + 1, k, none⟩ = false := hrow.frozen _
          have HR : Hid (wr.rowIs (w.heap.size + 1) 5 (20 - p) (fun i => if i < k then .int .u8 (buf (p + i)) else .int .u8 0)) := hrow
          have hpk : (p : Int) + (k : Int) < 20 := by omega
          clear hcc hrow
          go_wp2
          go_roundw
          case rel => exact ⟨k + 1, by omega, by go_num, (HR.out.set k _).congr (fun i _ => row_stepf (f := fun i => buf (p + i)) HC.out i), hbel.setCell (by simp) _⟩
          case measure => simp [intOf]; omega
        · have ho := dec_out HE'.out HD.out.bytes
          have HO : Hid (Own wr (some ⟨w.heap.size + 1, 0, none⟩) (Plain.dec 20 x).length (Plain.dec 20 x)) := by
            refine ⟨rfl, ho.2.2, .inr ⟨_, rfl, hrow.lt, fun i hi => ?_⟩⟩
            rw [ho.1] at hi
            rw [hrow.cell hi, if_pos (by omega), ho.2.1 i hi]
          have HL : Hid ((Plain.dec 20 x).length = 20 - p) := ho.1
          have HB : Hid (Below w.heap.size w wr) := HD.out.below.trans (hbel.mono (by omega))
          clear ho hrow hbel
          go_wp2
          go_ret
          exact ⟨_, ret_slice HL.out.symm HL.out.symm, HO.out, HB.out⟩

/-! ### sameBytes -/
theorem take_next {us vs : List Int} {k : Nat} (ha : k < us.length) (hb : k < vs.length) (h : us.take k = vs.take k) (hc : us.getD k 0 = vs.getD k 0) : us.take (k + 1) = vs.take (k + 1) := by
  rw [List.take_succ_eq_append_getElem ha, List.take_succ_eq_append_getElem hb, h]
  simp [List.getD, ha, hb] at hc
  rw [hc]

set_option maxHeartbeats 1000000 in
theorem same_row (b1 o1 b2 o2 n c1 c2 : Nat) (us vs : List Int) (w : World) (h1 : us.length = n) (h2 : vs.length = n) (hm : n ≤ 1048577) (hb1 : b1 < w.heap.size) (hb2 : b2 < w.heap.size)
    (hc1 : ∀ i, i < n → w.cell? ⟨b1, o1 + i, none⟩ = some (.int .u8 (us.getD i 0))) (hc2 : ∀ i, i < n → w.cell? ⟨b2, o2 + i, none⟩ = some (.int .u8 (vs.getD i 0))) :
    Calls Try.prog 15 #[.slice (some ⟨b1, o1, none⟩) n c1, .slice (some ⟨b2, o2, none⟩) n c2] w fun e w' => e = .returned (.bool (decide (us = vs))) ∧ Below w.heap.size w w' := by
  go_enter Try.func15, Try.ntmps15
  go_wp2
  go_loopw [5] (fun i wr => ∃ (k : Nat), k ≤ n ∧ i = .int .i64 k ∧ Hid (us.take k = vs.take k) ∧ Below w.heap.size w wr) (fun i _ => n - (intOf i).toNat)
  case atStart => exact ⟨0, Nat.zero_le _, rfl, by show _ = _; simp, Below.refl _ _⟩
  case round =>
    obtain ⟨k, hk, rfl, HP, hbel⟩ := hrel
    by_cases hlt : k < n
    · have hck1 : wr.cell? ⟨b1, o1 + k, none⟩ = some (.int .u8 (us.getD k 0)) := (hbel.cell (p := ⟨b1, o1 + k, none⟩) hb1).trans (hc1 k hlt)
      have hck2 : wr.cell? ⟨b2, o2 + k, none⟩ = some (.int .u8 (vs.getD k 0)) := (hbel.cell (p := ⟨b2, o2 + k, none⟩) hb2).trans (hc2 k hlt)
      obtain ⟨c, hcc⟩ : ∃ c, c = us.getD k 0 := ⟨_, rfl⟩
      obtain ⟨d, hdd⟩ : ∃ d, d = vs.getD k 0 := ⟨_, rfl⟩
      rw [← hcc] at hck1
      rw [← hdd] at hck2
      have HC : Hid (c = us.getD k 0) := hcc
      have HD : Hid (d = vs.getD k 0) := hdd
      have hki : (k : Int) < (n : Int) := by omega
      clear hcc hdd hc1 hc2
      by_cases hcd : c = d
      · have hne : (c != d) = false := by simpa using hcd
        have HCD : Hid (c = d) := hcd
        clear hcd
        go_wp2
        go_quiet (fail)
        go_wp2
        go_roundw
        case rel => exact ⟨k + 1, by omega, by go_num, take_next (by omega) (by omega) HP.out (by rw [← HC.out, ← HD.out]; exact HCD.out), below_drewN hbel _⟩
        case measure => simp [intOf]; omega
      · have hne : (c != d) = true := by simpa using hcd
        have HCD : Hid (us ≠ vs) := by intro e; apply hcd; rw [HC.out, HD.out, e]
        clear hcd
        go_wp2
        go_quiet (fail)
        go_wp2
        go_ret
        exact ⟨ret_bool (by rw [decide_eq_false HCD.out]), below_drewN hbel _⟩
    · have HE : Hid (us = vs) := by
        have := HP.out
        rw [List.take_of_length_le (by omega), List.take_of_length_le (by omega)] at this
        exact this
      clear hc1 hc2
      go_wp2
      go_ret
      exact ⟨ret_bool (by rw [decide_eq_true HE.out]), hbel⟩

theorem same_differ (a b : Option Addr) (n m c d : Nat) (w : World) (h : n ≠ m) :
    Calls Try.prog 15 #[.slice a n c, .slice b m d] w fun e w' => e = .returned (.bool false) ∧ w = w' := by
  have hne : ((n : Int) != (m : Int)) = true := by simp; omega
  go_enter Try.func15, Try.ntmps15
  go_wp2
  go_ret
  exact ⟨rfl, rfl⟩

theorem same_zero (a b : Option Addr) (c d : Nat) (w : World) :
    Calls Try.prog 15 #[.slice a 0 c, .slice b 0 d] w fun e w' => e = .returned (.bool true) ∧ w = w' := by
  go_enter Try.func15, Try.ntmps15
  go_wp2
  refine wp_loop_rounds 1 ?_
  rw [rounds_succ]
  go_wp2
  go_ret
  exact ⟨rfl, rfl⟩

theorem same_any (a b : Option Addr) (n m c d : Nat) (us vs : List Int) (w : World) (ha : Rd w a n us) (hb : Rd w b m vs) (hm : n ≤ 1048577) :
    Calls Try.prog 15 #[.slice a n c, .slice b m d] w fun e w' => e = .returned (.bool (decide (us = vs))) ∧ Below w.heap.size w w' := by
  obtain ⟨a1, a2, a3⟩ := ha
  obtain ⟨b1, b2, b3⟩ := hb
  by_cases hnm : n = m
  · subst hnm
    by_cases h0 : n = 0
    · subst h0
      obtain rfl := List.eq_nil_of_length_eq_zero a1
      obtain rfl := List.eq_nil_of_length_eq_zero b1
      refine (same_zero a b c d w).mono ?_
      rintro e w' ⟨rfl, rfl⟩
      exact ⟨rfl, Below.refl _ _⟩
    · rcases a3 with a3 | ⟨p1, o1, rfl, hl1, hc1⟩
      · exact absurd a3 h0
      rcases b3 with b3 | ⟨p2, o2, rfl, hl2, hc2⟩
      · exact absurd b3 h0
      exact same_row p1 o1 p2 o2 n c d us vs w a1 b1 hm hl1 hl2 hc1 hc2
  · refine (same_differ a b n m c d w hnm).mono ?_
    rintro e w' ⟨rfl, rfl⟩
    exact ⟨ret_bool (by rw [decide_eq_false (by intro e; subst e; omega)]), Below.refl _ _⟩

/-! ### digitsAtMost: the loop, once both texts are there -/
theorem lex_drop {s l : List Int} {k : Nat} {c d : Int} (hs : s.drop k = c :: s.drop (k + 1)) (hl : l.drop k = d :: l.drop (k + 1)) (h : Plain.lexLe (s.drop k) (l.drop k) = Plain.lexLe s l) :
    (c = d → Plain.lexLe (s.drop (k + 1)) (l.drop (k + 1)) = Plain.lexLe s l) ∧ (c ≠ d → decide (c < d) = Plain.lexLe s l) := by
  rw [hs, hl, Plain.lexLe] at h
  exact ⟨fun e => by rwa [if_pos e] at h, fun e => by rwa [if_neg e] at h⟩

theorem dec_len (f : Nat) : ∀ x, (Plain.dec f x).length ≤ f := by
  induction f with
  | zero => intro x; exact Nat.le_refl _
  | succ f ih =>
    intro x
    unfold Plain.dec
    split
    · simp
    · have := ih (x / 10)
      simp; omega

set_option maxHeartbeats 2000000 in
theorem atMost_any (a : Option Addr) (len : Nat) (zs : List Int) (L : Int) (w : World) (h : Own w a len zs) (hm : len ≤ 1048577) (hL0 : 0 ≤ L) (hL1 : L ≤ 18446744073709551615) :
    Calls Try.prog 14 #[.slice a len len, .int .u64 L] w fun e w' => e = .returned (.bool (Plain.atMost zs L)) ∧ Below w.heap.size w w' := by
  have hzs := h.1
  have HA : Hid (Plain.atMost zs L = if (Plain.strip zs).length = (Plain.dec 20 L).length then Plain.lexLe (Plain.strip zs) (Plain.dec 20 L) else decide ((Plain.strip zs).length < (Plain.dec 20 L).length)) := rfl
  generalize Plain.atMost zs L = res at HA
  go_enter Try.func14, Try.ntmps14
  go_wp2_with fail
  refine (strip_any a len zs w h hm).mono ?_
  rintro e w1 ⟨a', cap', rfl, hs, rfl⟩
  go_wp2_with fail
  refine (decimalOf_any L w hL0 hL1).mono ?_
  rintro e w1 ⟨al, rfl, hl, hb⟩
  have hs1 := hs.below hb
  have hl1 := hl.rd
  have hsl : (Plain.strip zs).length ≤ 1048577 := by have := Plain.strip_len zs; omega
  have hdl : (Plain.dec 20 L).length ≤ 1048577 := by have := dec_len 20 L; omega
  generalize Plain.strip zs = s at *
  generalize Plain.dec 20 L = l at *
  clear hs hl h
  by_cases hne : s.length = l.length
  · have HA' : Hid (res = Plain.lexLe s l) := by have := HA.out; rw [if_pos hne] at this; exact this
    have hd : ((s.length : Int) != (l.length : Int)) = false := by simp; omega
    obtain ⟨-, -, hs3⟩ := hs1
    obtain ⟨-, -, hl3⟩ := hl1
    have HN : Hid (s.length = l.length) := hne
    have hln : l.length ≤ s.length := by omega
    have hnl : s.length ≤ l.length := by omega
    clear hne HA
    have key : ∀ k : Nat, k < s.length → ∃ p1 o1 p2 o2, a' = some ⟨p1, o1, none⟩ ∧ al = some ⟨p2, o2, none⟩ ∧ p1 < w1.heap.size ∧ p2 < w1.heap.size ∧ w1.cell? ⟨p1, o1 + k, none⟩ = some (.int .u8 (s.getD k 0)) ∧ w1.cell? ⟨p2, o2 + k, none⟩ = some (.int .u8 (l.getD k 0)) := by
      intro k hk
      rcases hs3 with hs3 | ⟨p1, o1, h1, h2, h3⟩
      · omega
      rcases hl3 with hl3 | ⟨p2, o2, h4, h5, h6⟩
      · omega
      exact ⟨p1, o1, p2, o2, h1, h4, h2, h5, h3 k hk, h6 k (by omega)⟩
    clear hs3 hl3
    go_wp2
    go_loopw [7] (fun i wr => ∃ (k : Nat), k ≤ s.length ∧ i = .int .i64 k ∧ Hid (Plain.lexLe (s.drop k) (l.drop k) = Plain.lexLe s l) ∧ Below w1.heap.size w1 wr) (fun i _ => s.length - (intOf i).toNat)
    case atStart => exact ⟨0, Nat.zero_le _, rfl, rfl, Below.refl _ _⟩
    case round =>
      obtain ⟨k, hk, rfl, HP, hbel⟩ := hrel
      by_cases hlt : k < s.length
      · obtain ⟨p1, o1, p2, o2, rfl, rfl, hp1, hp2, hc1, hc2⟩ := key k hlt
        have hck1 : wr.cell? ⟨p1, o1 + k, none⟩ = some (.int .u8 (s.getD k 0)) := (hbel.cell (p := ⟨p1, o1 + k, none⟩) hp1).trans hc1
        have hck2 : wr.cell? ⟨p2, o2 + k, none⟩ = some (.int .u8 (l.getD k 0)) := (hbel.cell (p := ⟨p2, o2 + k, none⟩) hp2).trans hc2
        have d1 := getD_drop s k hlt
        have d2 := getD_drop l k (by omega)
        obtain ⟨c, hcc⟩ : ∃ c, c = s.getD k 0 := ⟨_, rfl⟩
        obtain ⟨d, hdd⟩ : ∃ d, d = l.getD k 0 := ⟨_, rfl⟩
        rw [← hcc] at hck1 d1
        rw [← hdd] at hck2 d2
        have HL : Hid ((c = d → Plain.lexLe (s.drop (k + 1)) (l.drop (k + 1)) = Plain.lexLe s l) ∧ (c ≠ d → decide (c < d) = Plain.lexLe s l)) := lex_drop d1 d2 HP.out
        have hki : (k : Int) < (s.length : Int) := by omega
        have hkl : (k : Int) < (l.length : Int) := by omega
        clear d1 d2 hcc hdd hc1 hc2 key HP
        by_cases hcd : c = d
        · have hne : (c != d) = false := by simpa using hcd
          have HCD := HL.out.1 hcd
          have HCD' : Hid (Plain.lexLe (s.drop (k + 1)) (l.drop (k + 1)) = Plain.lexLe s l) := HCD
          clear hcd HCD HL
          go_wp2
          go_quiet (fail)
          go_wp2
          go_roundw
          case rel => exact ⟨k + 1, by omega, by go_num, HCD', below_drewN hbel _⟩
          case measure => simp [intOf]; omega
        · have hne : (c != d) = true := by simpa using hcd
          have HCD' : Hid (decide (c < d) = Plain.lexLe s l) := HL.out.2 hcd
          clear hcd HL
          go_wp2
          go_quiet (fail)
          go_wp2
          go_quiet (fail)
          go_wp2
          go_ret
          exact ⟨ret_bool (by rw [HA'.out]; exact HCD'.out), hb.trans ((below_drewN (below_drewN hbel _) _).mono hb.size)⟩
      · have HE : Hid (Plain.lexLe s l = true) := by
          have := HP.out
          rw [List.drop_of_length_le (by omega), List.drop_of_length_le (by omega)] at this
          exact this.symm
        clear key
        go_wp2
        go_ret
        exact ⟨ret_bool (by rw [HA'.out, HE.out]), hb.trans (hbel.mono hb.size)⟩
  · have hd : ((s.length : Int) != (l.length : Int)) = true := by simp; omega
    go_wp2
    go_ret
    exact ⟨ret_bool (by rw [HA.out, if_neg hne]), hb⟩

end Go.Proofs.Qxb6601678a
