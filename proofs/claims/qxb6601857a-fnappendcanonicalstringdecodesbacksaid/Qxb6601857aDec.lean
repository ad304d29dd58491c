/-
  THE WALK OF acLowerHex, acDecodeCanonical, acSame.
-/
import Derived.Test.Qxb6601857aGrow
import Derived.Test.Qxb6601857aPlain2
namespace Go.Proofs.Qxb6601857a
open Go.RowKit Go.ChangeShapes Go.WideShapes Go.ChangeAt
set_option linter.unusedVariables false
set_option maxRecDepth 100000

theorem lowHex (n : Int) (h0 : 0 ≤ n) (h1 : n < 16) (w : World) : Calls Try.prog 21 #[.int .u8 (Plain.hexd n)] w fun e w' => e = .returned (.tuple #[.int .u8 n, .bool true]) ∧ w = w' := by
  have key : ∀ a b : Int, a = b → Ending.returned (.tuple #[.int .u8 a, .bool true]) = .returned (.tuple #[.int .u8 b, .bool true]) := fun a b h => by rw [h]
  unfold Plain.hexd
  by_cases h : n < 10
  · rw [if_pos h]
    have K := hide key
    clear key
    go_enter Try.func21, Try.ntmps21
    go_wp2
    go_ret2
    exact ⟨K.out _ _ (by omega), rfl⟩
  · rw [if_neg h]
    have K := hide key
    clear key
    go_enter Try.func21, Try.ntmps21
    go_wp2
    go_ret2
    exact ⟨K.out _ _ (by omega), rfl⟩

theorem or_nat (n : Nat) (h : n < 32) : bits BinOp.or IntKind.u8 ((n : Int) / 16 * 16) ((n : Int) % 16) = (n : Int) := by
  match n, h with
  | 0, _ | 1, _ | 2, _ | 3, _ | 4, _ | 5, _ | 6, _ | 7, _ | 8, _ | 9, _ | 10, _ | 11, _ | 12, _ | 13, _ | 14, _ | 15, _ => decide
  | 16, _ | 17, _ | 18, _ | 19, _ | 20, _ | 21, _ | 22, _ | 23, _ | 24, _ | 25, _ | 26, _ | 27, _ | 28, _ | 29, _ | 30, _ | 31, _ => decide
  | n + 32, h => exact absurd h (by omega)

theorem or_low {c : Int} (h0 : 0 ≤ c) (h : c < 32) : bits BinOp.or IntKind.u8 (c / 16 * 16) (c % 16) = c := by
  obtain ⟨n, rfl⟩ : ∃ n : Nat, c = n := ⟨c.toNat, by omega⟩
  exact or_nat n (by omega)

/-! ### acSame -/
set_option maxHeartbeats 1000000 in
theorem same12 (g n cap : Nat) (xs : List Int) (s : ByteArray) (w : World) (hx : xs = bl s) (hn : xs.length = n) (hm : n ≤ 1048577) (hg : 0 < n → g < w.heap.size)
    (hc : ∀ i, i < n → w.cell? ⟨g, i, none⟩ = some (.int .u8 (xs.getD i 0))) :
    Calls Try.prog 12 #[.slice (some ⟨g, 0, none⟩) n cap, .string s] w fun e w' => e = .returned (.bool true) ∧ Below w.heap.size w w' := by
  have hsz : s.size = n := by rw [← bl_length, ← hx, hn]
  have hne : ((n : Int) != (s.size : Int)) = false := by simp; omega
  have hle : s.size ≤ n := by omega
  have hge : n ≤ s.size := by omega
  have HX : Hid (∀ k (h : k < s.size), xs.getD k 0 = (s[k].toNat : Int)) := by
    intro k h
    rw [hx]
    have : k < (bl s).length := by rw [bl_length]; exact h
    simp [bl, List.getD, h]
    rfl
  have HC := hide hc
  clear hc hx hsz hn
  go_enter Try.func12, Try.ntmps12
  go_wp2
  go_loopw [5] (fun i wr => ∃ k : Nat, k ≤ s.size ∧ i = .int .i64 k ∧ Below w.heap.size w wr) (fun i _ => s.size - (intOf i).toNat)
  case atStart => exact ⟨0, Nat.zero_le _, rfl, Below.refl _ _⟩
  case round =>
    obtain ⟨k, hk, rfl, hbel⟩ := hrel
    by_cases hlt : k < s.size
    · have ck : wr.cell? ⟨g, k, none⟩ = some (.int .u8 (s[k].toNat : Int)) := by
        rw [← HX.out k hlt]
        exact (hbel.cell (p := ⟨g, k, none⟩) (hg (by omega))).trans (HC.out k (by omega))
      have q1 : (k : Int) < (n : Int) := by omega
      have q2 : (k : Int) < (s.size : Int) := by omega
      go_wp2
      go_quiet (fail)
      go_wp2
      go_roundw
      case rel => exact ⟨k + 1, by omega, by go_num, below_drewN hbel _⟩
      case measure => simp [intOf]; omega
    · go_wp2
      go_ret
      exact ⟨rfl, hbel⟩

/-! ### acDecodeCanonical -/
set_option maxHeartbeats 8000000 in
theorem decode11 (g off n cap : Nat) (xs : List Int) (w : World) (hr : ∀ i, 0 ≤ xs.getD i 0 ∧ xs.getD i 0 ≤ 255) (hn : (Plain.canon xs).length = n) (hm : xs.length ≤ 1048577) (hg : g < w.heap.size)
    (hc : ∀ i, i < n → w.cell? ⟨g, off + i, none⟩ = some (.int .u8 ((Plain.canon xs).getD i 0))) :
    Calls Try.prog 11 #[.slice (some ⟨g, off, none⟩) n cap] w fun e w' => ∃ v, e = .returned (.tuple #[v, .bool true]) ∧ Buf w.heap.size v xs w w' := by
  obtain ⟨i0, hi, hz0, hz1, hz2⟩ := info_parts Try.info5
  have hl1 := Plain.canon_length xs
  have hl2 := Plain.body_len xs
  have hnn : n ≤ 100000000 := by omega
  have hn2 : 2 ≤ n := by omega
  have c0 : w.cell? ⟨g, off, none⟩ = some (.int .u8 34) := by have h := hc 0 (by omega); rw [Plain.canon_first] at h; exact h
  have c1 : w.cell? ⟨g, off + (n - 1), none⟩ = some (.int .u8 34) := by
    have := hc (n - 1) (by omega)
    rw [show n - 1 = 1 + (Plain.body xs).length by omega, Plain.canon_last] at this
    rw [show n - 1 = 1 + (Plain.body xs).length by omega]
    exact this
  have HC := hide hc
  have HR := hide hr
  have HN := hide hn
  have HL := hide hl1
  clear hc hr hn hl1
  go_enter Try.func11, Try.ntmps11
  go_wp2_with (at_make; refine wpList_make_own _ rfl _ _ 22 rfl w.heap.size 5 i0 (.int .u8 0) 1 Try.underlying22 hi hz0 hz1 _ _ _ n rfl rfl (by omega) (by rw [hz2]; omega) (by unfold maxLen; omega) (Nat.le_refl _) ?_)
  intro w1 hown hgr
  have hB1 : Below w.heap.size w w1 := (Below.refl _ _).grown hgr (Nat.le_refl _) (fun k hk => by cases hk)
  have hbuf : Buf w.heap.size (.slice (some ⟨w.heap.size, 0, none⟩) 0 n) [] w w1 := ⟨hown, hB1, hB1.size⟩
  clear hown hgr hB1 c0 c1 hi hz0 hz1 hz2
  go_wp2_with fail
  go_loopw [5, 6] (fun v i wr => ∃ k j : Nat, k ≤ xs.length ∧ i = .int .i64 j ∧ Hid (j = 1 + (Plain.body (xs.take k)).length) ∧ Buf w.heap.size v (xs.take k) w wr) (fun _ i _ => n - (intOf i).toNat)
  case atStart => exact ⟨0, 1, Nat.zero_le _, rfl, by show _ = _; simp [Plain.body], by simpa using hbuf⟩
  case round =>
    clear hbuf
    obtain ⟨k, j, hk, rfl, HJ, hb⟩ := hrel
    by_cases hlt : k < xs.length
    · have hj := HJ.out
      have hnx := Plain.body_next xs k hlt
      have hbd := Plain.body_bound xs k hlt
      have hel := Plain.esc_len (xs.getD k 0)
      have hrk := HR.out k
      have hsn := Plain.take_snoc xs k hlt
      have hn' := HN.out
      have hl' := HL.out
      have hj1 : 1 ≤ j := by omega
      have hjn : j + (Plain.esc (xs.getD k 0)).length + 1 ≤ n := by omega
      have HCe : Hid (∀ m, m < (Plain.esc (xs.getD k 0)).length → wr.cell? ⟨g, off + (j + m), none⟩ = some (.int .u8 ((Plain.esc (xs.getD k 0)).getD m 0))) := by
        intro m hm
        rw [← Plain.canon_at xs k m hlt hm, ← hj]
        exact (hb.2.1.cell (p := ⟨g, off + (j + m), none⟩) hg).trans (HC.out (j + m) (by omega))
      have HNX : Hid (∀ v w', Buf w.heap.size v (xs.take k ++ [xs.getD k 0]) w w' → ∃ k' j' : Nat, k' ≤ xs.length ∧ Value.int .i64 ((j : Int) + ((Plain.esc (xs.getD k 0)).length : Int)) = .int .i64 j' ∧ Hid (j' = 1 + (Plain.body (xs.take k')).length) ∧ Buf w.heap.size v (xs.take k') w w') := by
        intro v w' h
        refine ⟨k + 1, j + (Plain.esc (xs.getD k 0)).length, by omega, by go_num, ?_, by rw [hsn]; exact h⟩
        show _ = _
        omega
      have hlk : (xs.take k).length ≤ 1048577 := by simp; omega
      clear hj hnx hbd hsn hn' hl' hel HJ
      generalize xs.take k = ys at *
      generalize xs.getD k 0 = c at *
      by_cases h34 : c = 34
      · subst h34
        have E := hide (Plain.esc_34 (c := 34) rfl)
        rw [E.out] at hjn HCe HNX
        have d0 : wr.cell? ⟨g, off + j, none⟩ = some (.int .u8 92) := HCe.out 0 (by decide)
        have d1 : wr.cell? ⟨g, off + (j + 1), none⟩ = some (.int .u8 34) := HCe.out 1 (by decide)
        have hjn' : j + 3 ≤ n := by simpa using hjn
        clear HCe hjn E
        go_wp2_with (at_builtin; refine wpList_buf rfl (.tmp 70) (.tmp 72) rfl w.heap.size _ ys rfl w wr _ [34] rfl hb rfl (by simp; omega) ?_)
        intro v' w' hb'
        have HB := hide hb'
        clear hb' hb d0 d1
        go_wp2
        go_roundw
        case rel => exact HNX.out _ _ HB.out
        case measure => simp [intOf]; omega
      by_cases h92 : c = 92
      · subst h92
        have E := hide (Plain.esc_92 (c := 92) rfl)
        rw [E.out] at hjn HCe HNX
        have d0 : wr.cell? ⟨g, off + j, none⟩ = some (.int .u8 92) := HCe.out 0 (by decide)
        have d1 : wr.cell? ⟨g, off + (j + 1), none⟩ = some (.int .u8 92) := HCe.out 1 (by decide)
        have hjn' : j + 3 ≤ n := by simpa using hjn
        clear HCe hjn E
        go_wp2_with (at_builtin; refine wpList_buf rfl (.tmp 70) (.tmp 72) rfl w.heap.size _ ys rfl w wr _ [92] rfl hb rfl (by simp; omega) ?_)
        intro v' w' hb'
        have HB := hide hb'
        clear hb' hb d0 d1
        go_wp2
        go_roundw
        case rel => exact HNX.out _ _ HB.out
        case measure => simp [intOf]; omega
      by_cases h8 : c = 8
      · subst h8
        have E := hide (Plain.esc_8 (c := 8) rfl)
        rw [E.out] at hjn HCe HNX
        have d0 : wr.cell? ⟨g, off + j, none⟩ = some (.int .u8 92) := HCe.out 0 (by decide)
        have d1 : wr.cell? ⟨g, off + (j + 1), none⟩ = some (.int .u8 98) := HCe.out 1 (by decide)
        have hjn' : j + 3 ≤ n := by simpa using hjn
        clear HCe hjn E
        go_wp2_with (at_builtin; refine wpList_buf rfl (.tmp 78) (.tmp 79) rfl w.heap.size _ ys rfl w wr _ [8] rfl hb rfl (by simp; omega) ?_)
        intro v' w' hb'
        have HB := hide hb'
        clear hb' hb d0 d1
        go_wp2
        go_roundw
        case rel => exact HNX.out _ _ HB.out
        case measure => simp [intOf]; omega
      by_cases h9 : c = 9
      · subst h9
        have E := hide (Plain.esc_9 (c := 9) rfl)
        rw [E.out] at hjn HCe HNX
        have d0 : wr.cell? ⟨g, off + j, none⟩ = some (.int .u8 92) := HCe.out 0 (by decide)
        have d1 : wr.cell? ⟨g, off + (j + 1), none⟩ = some (.int .u8 116) := HCe.out 1 (by decide)
        have hjn' : j + 3 ≤ n := by simpa using hjn
        clear HCe hjn E
        go_wp2_with (at_builtin; refine wpList_buf rfl (.tmp 85) (.tmp 86) rfl w.heap.size _ ys rfl w wr _ [9] rfl hb rfl (by simp; omega) ?_)
        intro v' w' hb'
        have HB := hide hb'
        clear hb' hb d0 d1
        go_wp2
        go_roundw
        case rel => exact HNX.out _ _ HB.out
        case measure => simp [intOf]; omega
      by_cases h10 : c = 10
      · subst h10
        have E := hide (Plain.esc_10 (c := 10) rfl)
        rw [E.out] at hjn HCe HNX
        have d0 : wr.cell? ⟨g, off + j, none⟩ = some (.int .u8 92) := HCe.out 0 (by decide)
        have d1 : wr.cell? ⟨g, off + (j + 1), none⟩ = some (.int .u8 110) := HCe.out 1 (by decide)
        have hjn' : j + 3 ≤ n := by simpa using hjn
        clear HCe hjn E
        go_wp2_with (at_builtin; refine wpList_buf rfl (.tmp 92) (.tmp 93) rfl w.heap.size _ ys rfl w wr _ [10] rfl hb rfl (by simp; omega) ?_)
        intro v' w' hb'
        have HB := hide hb'
        clear hb' hb d0 d1
        go_wp2
        go_roundw
        case rel => exact HNX.out _ _ HB.out
        case measure => simp [intOf]; omega
      by_cases h12 : c = 12
      · subst h12
        have E := hide (Plain.esc_12 (c := 12) rfl)
        rw [E.out] at hjn HCe HNX
        have d0 : wr.cell? ⟨g, off + j, none⟩ = some (.int .u8 92) := HCe.out 0 (by decide)
        have d1 : wr.cell? ⟨g, off + (j + 1), none⟩ = some (.int .u8 102) := HCe.out 1 (by decide)
        have hjn' : j + 3 ≤ n := by simpa using hjn
        clear HCe hjn E
        go_wp2_with (at_builtin; refine wpList_buf rfl (.tmp 99) (.tmp 100) rfl w.heap.size _ ys rfl w wr _ [12] rfl hb rfl (by simp; omega) ?_)
        intro v' w' hb'
        have HB := hide hb'
        clear hb' hb d0 d1
        go_wp2
        go_roundw
        case rel => exact HNX.out _ _ HB.out
        case measure => simp [intOf]; omega
      by_cases h13 : c = 13
      · subst h13
        have E := hide (Plain.esc_13 (c := 13) rfl)
        rw [E.out] at hjn HCe HNX
        have d0 : wr.cell? ⟨g, off + j, none⟩ = some (.int .u8 92) := HCe.out 0 (by decide)
        have d1 : wr.cell? ⟨g, off + (j + 1), none⟩ = some (.int .u8 114) := HCe.out 1 (by decide)
        have hjn' : j + 3 ≤ n := by simpa using hjn
        clear HCe hjn E
        go_wp2_with (at_builtin; refine wpList_buf rfl (.tmp 106) (.tmp 107) rfl w.heap.size _ ys rfl w wr _ [13] rfl hb rfl (by simp; omega) ?_)
        intro v' w' hb'
        have HB := hide hb'
        clear hb' hb d0 d1
        go_wp2
        go_roundw
        case rel => exact HNX.out _ _ HB.out
        case measure => simp [intOf]; omega
      by_cases hlo : c < 32
      · have E := hide (Plain.esc_low h8 h12 h10 h13 h9 hlo)
        rw [E.out] at hjn HCe HNX
        have d0 : wr.cell? ⟨g, off + j, none⟩ = some (.int .u8 92) := HCe.out 0 (by simp)
        have d1 : wr.cell? ⟨g, off + (j + 1), none⟩ = some (.int .u8 117) := HCe.out 1 (by simp)
        have d2 : wr.cell? ⟨g, off + (j + 2), none⟩ = some (.int .u8 48) := HCe.out 2 (by simp)
        have d3 : wr.cell? ⟨g, off + (j + 3), none⟩ = some (.int .u8 48) := HCe.out 3 (by simp)
        have d4 : wr.cell? ⟨g, off + (j + 4), none⟩ = some (.int .u8 (Plain.hexd (c / 16))) := HCe.out 4 (by simp)
        have d5 : wr.cell? ⟨g, off + (j + 5), none⟩ = some (.int .u8 (Plain.hexd (c % 16))) := HCe.out 5 (by simp)
        have hjn' : j + 7 ≤ n := by simpa using hjn
        clear HCe hjn E
        go_wp2_with fail
        refine (lowHex (c / 16) (by omega) (by omega) _).mono ?_
        rintro e w2 ⟨rfl, rfl⟩
        go_wp2_with fail
        refine (lowHex (c % 16) (by omega) (by omega) _).mono ?_
        rintro e w2 ⟨rfl, rfl⟩
        have ho := or_low hrk.1 hlo
        have t8 : (c == 8) = false := by simpa using h8
        have t9 : (c == 9) = false := by simpa using h9
        have t10 : (c == 10) = false := by simpa using h10
        have t12 : (c == 12) = false := by simpa using h12
        have t13 : (c == 13) = false := by simpa using h13
        clear h34 h92 h8 h9 h10 h12 h13 d0 d1 d2 d3 d4 d5
        go_wp2_with (at_builtin; refine wpList_buf rfl (.tmp 184) (.tmp 186) rfl w.heap.size _ ys rfl w wr _ [c] rfl hb rfl (by simp; omega) ?_)
        intro v' w' hb'
        have HB := hide hb'
        clear hb' hb
        go_wp2
        go_roundw
        case rel => exact HNX.out _ _ HB.out
        case measure => simp [intOf]; omega
      · have E := hide (Plain.esc_self h34 h92 (by omega))
        rw [E.out] at hjn HCe HNX
        have d0 : wr.cell? ⟨g, off + j, none⟩ = some (.int .u8 c) := HCe.out 0 (by simp)
        have hjn' : j + 2 ≤ n := by simpa using hjn
        have t1 : (c == 34) = false := by simpa using h34
        have t2 : (c != 92) = true := by simpa using h92
        clear HCe hjn E h34 h92 h8 h9 h10 h12 h13
        go_wp2_with (at_builtin; refine wpList_buf rfl (.tmp 50) (.tmp 52) rfl w.heap.size _ ys rfl w wr _ [c] rfl hb rfl (by simp; omega) ?_)
        intro v' w' hb'
        have HB := hide hb'
        clear hb' hb d0
        go_wp2
        go_roundw
        case rel => exact HNX.out _ _ HB.out
        case measure => simp [intOf]; omega
    · have hks : xs.take k = xs := List.take_of_length_le (by omega)
      have hjn : j + 1 = n := by have h1 := HJ.out; have h2 := HN.out; have h3 := HL.out; rw [hks] at h1; omega
      have hj2 : (n : Int) - 1 ≤ (j : Int) := by omega
      rw [hks] at hb
      have HB := hide hb
      clear hb hks hjn
      go_wp2
      go_ret2
      exact ⟨_, rfl, HB.out⟩

end Go.Proofs.Qxb6601857a
