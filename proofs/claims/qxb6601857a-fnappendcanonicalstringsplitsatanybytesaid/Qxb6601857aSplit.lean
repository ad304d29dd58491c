/-
  THE WALK OF FnAppendCanonicalStringSplitsAtAnyByte.
-/
import Derived.Test.Qxb6601857aCs1
namespace Go.Proofs.Qxb6601857a
open Go.RowKit Go.ChangeShapes Go.WideShapes Go.ChangeAt
set_option linter.unusedVariables false
set_option maxRecDepth 100000

theorem zz13 (s t : ByteArray) (w : World) (hs : s.size ≤ maxLen) (ht : t.size ≤ maxLen) :
    Calls Try.prog 13 #[.string s, .string t] w fun e w' => e = .returned (.bool (decide (s.size + t.size ≤ 1048576))) ∧ w = w' := by
  unfold maxLen at hs ht
  by_cases h : s.size + t.size ≤ 1048576
  · rw [decide_eq_true h]
    go_enter Try.func13, Try.ntmps13
    go_wp2
    go_ret
    exact ⟨rfl, rfl⟩
  · rw [decide_eq_false h]
    by_cases e1 : s.size ≤ 1048576
    · by_cases e2 : t.size ≤ 1048576
      · go_enter Try.func13, Try.ntmps13
        go_wp2
        go_ret
        exact ⟨rfl, rfl⟩
      · go_enter Try.func13, Try.ntmps13
        go_wp2
        go_ret
        exact ⟨rfl, rfl⟩
    · go_enter Try.func13, Try.ntmps13
      go_wp2
      go_ret
      exact ⟨rfl, rfl⟩

theorem sb_out (s t : ByteArray) (w : World) (hs : s.size ≤ maxLen) (ht : t.size ≤ maxLen) (h : ¬ s.size + t.size ≤ 1048576 ∨ 524288 < s.size ∨ 524288 < t.size) :
    Calls Try.prog 4 #[.string s, .string t] w fun e w' => e = .returned (.bool true) ∧ Below w.heap.size w w' := by
  have hs' := hs
  have ht' := ht
  unfold maxLen at hs' ht'
  by_cases h0 : s.size + t.size ≤ 1048576
  · have hd : decide (s.size + t.size ≤ 1048576) = true := decide_eq_true h0
    by_cases h1 : 524288 < s.size
    · go_enter Try.func4, Try.ntmps4
      go_wp2_with fail
      refine (zz13 s t w hs ht).mono ?_
      rintro e w' ⟨rfl, rfl⟩
      rw [hd]
      clear hd
      go_wp2_with fail
      go_ret
      exact ⟨rfl, Below.refl _ _⟩
    · have h2 : 524288 < t.size := by omega
      go_enter Try.func4, Try.ntmps4
      go_wp2_with fail
      refine (zz13 s t w hs ht).mono ?_
      rintro e w' ⟨rfl, rfl⟩
      rw [hd]
      clear hd
      go_wp2_with fail
      go_ret
      exact ⟨rfl, Below.refl _ _⟩
  · have hd : decide (s.size + t.size ≤ 1048576) = false := decide_eq_false h0
    go_enter Try.func4, Try.ntmps4
    go_wp2_with fail
    refine (zz13 s t w hs ht).mono ?_
    rintro e w' ⟨rfl, rfl⟩
    rw [hd]
    clear hd
    go_wp2_with fail
    go_ret
    exact ⟨rfl, Below.refl _ _⟩

set_option maxHeartbeats 4000000 in
theorem sb_main (s t : ByteArray) (w : World) (hs : s.size ≤ 524288) (ht : t.size ≤ 524288) :
    Calls Try.prog 4 #[.string s, .string t] w fun e w' => e = .returned (.bool true) ∧ Below w.heap.size w w' := by
  have hd : decide (s.size + t.size ≤ 1048576) = true := decide_eq_true (by omega)
  have e1 := Plain.split_len (bl s) (bl t)
  have e2 := fun i => Plain.split_left (bl s) (bl t) i
  have e3 := fun j => Plain.split_right (bl s) (bl t) j
  have l1 := Plain.canon_len (bl s)
  have l2 := Plain.canon_len (bl t)
  rw [bl_length] at l1 l2
  go_enter Try.func4, Try.ntmps4
  go_wp2_with fail
  refine (zz13 s t w (by unfold maxLen; omega) (by unfold maxLen; omega)).mono ?_
  rintro e w' ⟨rfl, rfl⟩
  rw [hd]
  clear hd
  go_wp2_with fail
  have hsz : (s ++ t).size ≤ 1048577 := by rw [ByteArray.size_append]; omega
  refine (canon10 none [] (s ++ t) w (by simp) hsz (fun _ => rfl) (by intro b h; cases h)).mono ?_
  rintro e w1 ⟨v1, rfl, b1⟩
  rw [bl_append, List.nil_append] at b1
  go_wp2_with fail
  refine (canon10 none [] s w1 (by simp) (by omega) (fun _ => rfl) (by intro b h; cases h)).mono ?_
  rintro e w2 ⟨v2, rfl, b2⟩
  rw [List.nil_append] at b2
  go_wp2_with fail
  refine (canon10 none [] t w2 (by simp) (by omega) (fun _ => rfl) (by intro b h; cases h)).mono ?_
  rintro e w3 ⟨v3, rfl, b3⟩
  rw [List.nil_append] at b3
  have B1 := b1.2.1
  have B2 := b2.2.1
  have B3 := b3.2.1
  have s1 := B1.size
  have s2 := B2.size
  have s3 := B3.size
  have HB := hide ((B1.trans (B2.mono s1)).trans (B3.mono (Nat.le_trans s1 s2)))
  generalize Plain.canon (bl s ++ bl t) = W at *
  generalize Plain.canon (bl s) = L at *
  generalize Plain.canon (bl t) = R at *
  obtain ⟨g1, c1, rfl, _, x1, _, _, k1⟩ := b1.form (by omega)
  obtain ⟨g2, c2, rfl, _, x2, _, _, k2⟩ := b2.form (by omega)
  obtain ⟨g3, c3, rfl, _, x3, _, _, k3⟩ := b3.form (by omega)
  have K1 : Hid (∀ i, i < W.length → w3.cell? ⟨g1, i, none⟩ = some (.int .u8 (W.getD i 0))) := fun i hi => (B3.cell (p := ⟨g1, i, none⟩) (Nat.lt_of_lt_of_le x1 s2)).trans ((B2.cell (p := ⟨g1, i, none⟩) x1).trans (k1 i hi))
  have K2 : Hid (∀ i, i < L.length → w3.cell? ⟨g2, i, none⟩ = some (.int .u8 (L.getD i 0))) := fun i hi => (B3.cell (p := ⟨g2, i, none⟩) x2).trans (k2 i hi)
  have K3 := hide k3
  have E2 := hide e2
  have E3 := hide e3
  have y1 : g1 < w3.heap.size := by omega
  have y2 : g2 < w3.heap.size := by omega
  clear b1 b2 b3 k1 k2 k3 e2 e3 B1 B2 B3 x1 x2
  have hne : ((W.length : Int) != (L.length : Int) + (R.length : Int) - 2) = false := by simp; omega
  have h1 : W.length ≤ 100000000 := by omega
  have h2 : L.length ≤ 100000000 := by omega
  have h3 : R.length ≤ 100000000 := by omega
  have h4 : 2 ≤ L.length := by omega
  have h5 : 2 ≤ R.length := by omega
  have h6 : W.length + 2 ≤ L.length + R.length := by omega
  have h7 : L.length + R.length ≤ W.length + 2 := by omega
  clear e1
  go_wp2
  go_loopw [8] (fun i wr => ∃ k : Nat, k + 1 ≤ L.length ∧ i = .int .i64 k ∧ Below w3.heap.size w3 wr) (fun i _ => L.length - (intOf i).toNat)
  case atStart => exact ⟨0, by omega, rfl, Below.refl _ _⟩
  case round =>
    obtain ⟨k, hk, rfl, hbel⟩ := hrel
    by_cases hlt : k + 1 < L.length
    · have ck1 : wr.cell? ⟨g1, k, none⟩ = some (.int .u8 (L.getD k 0)) := by rw [← E2.out k hlt]; exact (hbel.cell (p := ⟨g1, k, none⟩) y1).trans (K1.out k (by omega))
      have ck2 : wr.cell? ⟨g2, k, none⟩ = some (.int .u8 (L.getD k 0)) := (hbel.cell (p := ⟨g2, k, none⟩) y2).trans (K2.out k (by omega))
      generalize L.getD k 0 = c at ck1 ck2
      have q1 : (k : Int) < (W.length : Int) := by omega
      have q2 : (k : Int) < (L.length : Int) := by omega
      go_wp2
      go_quiet (fail)
      go_wp2
      go_roundw
      case rel => exact ⟨k + 1, by omega, by go_num, below_drewN hbel _⟩
      case measure => simp [intOf]; omega
    · go_wp2
      go_loopw [9] (fun i wv => ∃ k : Nat, 1 ≤ k ∧ k ≤ R.length ∧ i = .int .i64 k ∧ Below w3.heap.size w3 wv) (fun i _ => R.length - (intOf i).toNat)
      case atStart => exact ⟨1, by omega, by omega, rfl, hbel⟩
      case round =>
        clear hbel
        obtain ⟨j, hj1, hj, rfl, hbel⟩ := hrel
        by_cases hlt2 : j < R.length
        · have ck1 : wr.cell? ⟨g1, L.length - 2 + j, none⟩ = some (.int .u8 (R.getD j 0)) := by rw [← E3.out j hj1]; exact (hbel.cell (p := ⟨g1, L.length - 2 + j, none⟩) y1).trans (K1.out _ (by omega))
          have ck2 : wr.cell? ⟨g3, j, none⟩ = some (.int .u8 (R.getD j 0)) := (hbel.cell (p := ⟨g3, j, none⟩) x3).trans (K3.out j (by omega))
          generalize R.getD j 0 = c at ck1 ck2
          have q1 : (L.length : Int) - 2 + (j : Int) < (W.length : Int) := by omega
          have q2 : (j : Int) < (R.length : Int) := by omega
          go_wp2
          go_quiet (fail)
          go_wp2
          go_roundw
          case rel => exact ⟨j + 1, by omega, by omega, by go_num, below_drewN hbel _⟩
          case measure => simp [intOf]; omega
        · go_wp2
          go_ret
          exact ⟨rfl, HB.out.trans (hbel.mono (by omega))⟩

theorem sb_any (s t : ByteArray) (w : World) (hs : s.size ≤ maxLen) (ht : t.size ≤ maxLen) :
    Calls Try.prog 4 #[.string s, .string t] w fun e w' => e = .returned (.bool true) ∧ Below w.heap.size w w' := by
  by_cases h : ¬ s.size + t.size ≤ 1048576 ∨ 524288 < s.size ∨ 524288 < t.size
  · exact sb_out s t w hs ht h
  · exact sb_main s t w (by omega) (by omega)

end Go.Proofs.Qxb6601857a
