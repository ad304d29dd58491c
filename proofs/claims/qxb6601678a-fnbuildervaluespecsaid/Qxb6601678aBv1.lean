/-
  THE WALKS OF THE SMALL FUNCTIONS on FnBuilderValueSpec's road: isText, isSeq, sameFloat, zzBytes, extent.
-/
import Derived.Test.Qxb6601678aBv0
import Derived.Laws.FloatArith
namespace Go.Proofs.Qxb6601678a.Bv
open Go.RowKit Go.ChangeShapes Go.WideShapes Go.ChangeAt
set_option linter.unusedVariables false
set_option maxRecDepth 100000

attribute [local go_sem] run_store_float

theorem isText_any (k : Int) (w : World) : Calls Try.prog 34 #[.int .u8 k] w fun e w' => e = .returned (.bool (isText k)) ∧ w = w' := by
  unfold isText
  rcases h1 : (k == 1) with _ | _
  · rcases h2 : (k == 2) with _ | _
    · rcases h4 : (k == 4) with _ | _
      · rcases h12 : (k == 12) with _ | _
        · rcases h11 : (k == 11) with _ | _
          all_goals
            go_enter Try.func34, Try.ntmps34
            go_wp2
            go_ret
            exact ⟨rfl, rfl⟩
        · go_enter Try.func34, Try.ntmps34
          go_wp2
          go_ret
          exact ⟨rfl, rfl⟩
      · go_enter Try.func34, Try.ntmps34
        go_wp2
        go_ret
        exact ⟨rfl, rfl⟩
    · go_enter Try.func34, Try.ntmps34
      go_wp2
      go_ret
      exact ⟨rfl, rfl⟩
  · go_enter Try.func34, Try.ntmps34
    go_wp2
    go_ret
    exact ⟨rfl, rfl⟩

theorem isSeq_any (k : Int) (w : World) : Calls Try.prog 35 #[.int .u8 k] w fun e w' => e = .returned (.bool (isSeq k)) ∧ w = w' := by
  unfold isSeq
  rcases h1 : (k == 5) with _ | _
  · rcases h2 : (k == 15) with _ | _
    · rcases h4 : (k == 16) with _ | _
      all_goals
        go_enter Try.func35, Try.ntmps35
        go_wp2
        go_ret
        exact ⟨rfl, rfl⟩
    · go_enter Try.func35, Try.ntmps35
      go_wp2
      go_ret
      exact ⟨rfl, rfl⟩
  · go_enter Try.func35, Try.ntmps35
    go_wp2
    go_ret
    exact ⟨rfl, rfl⟩

theorem read_zero : Ieee.double.read 0 = .number false 0 Ieee.double.leastPlace := by decide
theorem read_one : Ieee.double.read 4607182418800017408 = .number false 4503599627370496 (-52) := by decide

theorem zero_of_order {a : Nat} (h : FloatKind.f64.format.order a 0 = some .eq) : ∃ s i, Ieee.double.read a = .number s 0 i := by
  have h' : (Ieee.double.read a).order (Ieee.double.read 0) = some .eq := h
  rw [read_zero] at h'
  cases hd : Ieee.double.read a with
  | number s m i =>
    rw [hd] at h'
    simp only [Ieee.Datum.order, Option.some.injEq] at h'
    generalize (i - min i Ieee.double.leastPlace).toNat = k at h'
    generalize (Ieee.double.leastPlace - min i Ieee.double.leastPlace).toNat = k' at h'
    have e : Ieee.signed s m k = Ieee.signed false 0 k' := by
      have := Int.compare_eq_eq.1 h'
      exact this
    have e0 : Ieee.signed false 0 k' = 0 := by simp [Ieee.signed]
    rw [e0] at e
    have hm : m <<< k = 0 := by
      unfold Ieee.signed at e
      split at e <;> omega
    rw [Nat.shiftLeft_eq] at hm
    have hp : 0 < 2 ^ k := Nat.pow_pos (by omega)
    have hm0 : m = 0 := by
      rcases Nat.mul_eq_zero.1 hm with h | h
      · exact h
      · omega
    subst hm0
    exact ⟨s, i, rfl⟩
  | infinity s =>
    rw [hd] at h'
    simp only [Ieee.Datum.order, Option.some.injEq] at h'
    cases s <;> simp at h'
  | nan s f =>
    rw [hd] at h'
    simp [Ieee.Datum.order] at h'

theorem inf_self (s : Bool) : FloatKind.f64.format.order (Ieee.double.write (.infinity s)) (Ieee.double.write (.infinity s)) = some .eq := by
  cases s <;> decide

theorem quo_zero {a : Nat} (h : FloatKind.f64.format.order a 0 = some .eq) : ∃ r, floatBits .quo .f64 4607182418800017408 a = some r ∧ FloatKind.f64.format.order r r = some .eq := by
  obtain ⟨s, i, hr⟩ := zero_of_order h
  refine ⟨Ieee.double.write (.infinity (false ^^ s)), ?_, inf_self _⟩
  show ((Ieee.double.read 4607182418800017408).quotient (Ieee.double.fractionBits + 2) (Ieee.double.read a)).map Ieee.double.write = _
  rw [read_one, hr]
  simp [Ieee.Datum.quotient]

theorem sameFloat_any (a : Nat) (w : World) : Calls Try.prog 38 #[.float .f64 a, .float .f64 a] w fun e w' => e = .returned (.bool true) ∧ w = w' := by
  rcases h1 : (FloatKind.f64.format.order a a != some Ordering.eq) with _ | _
  · have h1' : (FloatKind.f64.format.order a a == some Ordering.eq) = true := by simpa using h1
    rcases h2 : (FloatKind.f64.format.order a 0 == some Ordering.eq) with _ | _
    · go_enter Try.func38, Try.ntmps38
      go_wp2
      go_ret
      exact ⟨rfl, rfl⟩
    · obtain ⟨r, hr1, hr2⟩ := quo_zero (a := a) (by simpa using h2)
      have hq := fun w => run_float_arith (P := Try.prog) w .quo 41 .f64 4607182418800017408 a r hr1
      have hr2' : (FloatKind.f64.format.order r r == some Ordering.eq) = true := by simpa using hr2
      clear hr1 hr2
      go_enter Try.func38, Try.ntmps38
      go_wp2
      go_ret
      exact ⟨rfl, rfl⟩
  · go_enter Try.func38, Try.ntmps38
    go_wp2
    go_ret
    exact ⟨rfl, rfl⟩

/-- the token cannot be built: nothing is left -/
theorem ext_refused {R : Nat} {t : Tok} {ts : List Tok} {n : Nat} (hn : n ≠ 0) (ha : t.attr = false) (h : ¬ okTok R t) : ext R (t :: ts) n = none := by
  refine ext_bad hn ha ?_
  cases e : okB R t with
  | false => rfl
  | true => exact absurd ((okB_iff R t).1 e) h

theorem ext_built {R : Nat} {t : Tok} {ts : List Tok} {n : Nat} (hn : n ≠ 0) (ha : t.attr = false) (h : okTok R t) : ext R (t :: ts) n = ext R ts (n - 1 + kids t) :=
  ext_main hn ha ((okB_iff R t).2 h)

theorem extI_none {R n : Nat} {ts : List Tok} {need : Nat} (h : ext R ts need = none) : extI R n ts need = -1 := by simp [extI, h]

set_option maxHeartbeats 8000000 in
theorem extent_row (b off n cap : Nat) (toks : List Tok) (p0 need0 R : Nat) (w : World) (hn : toks.length = n) (hnn : n ≤ 32768) (hR : R ≤ 1048576) (hb : b < w.heap.size) (hrow : TokRow w b off toks) (hwf : ∀ t ∈ toks, TokWf t)
    (hp0 : p0 ≤ n) (hneed0 : need0 ≤ 2) :
    Calls Try.prog 25 #[.slice (some ⟨b, off, none⟩) n cap, .int .i64 p0, .int .i64 need0, .int .i64 R] w fun e w' => e = .returned (.int .i64 (extI R n (toks.drop p0) need0)) ∧ Below w.heap.size w w' := by
  have HROW := hide hrow
  have HWF := hide hwf
  clear hrow hwf
  go_enter Try.func25, Try.ntmps25
  go_wp2
  go_loopw [1, 2] (fun pv nv wr => ∃ p need : Nat, p ≤ n ∧ pv = .int .i64 p ∧ nv = .int .i64 need ∧ need ≤ 300000 ∧ Hid (ext R (toks.drop p) need = ext R (toks.drop p0) need0) ∧ Below w.heap.size w wr) (fun pv _ _ => n + 1 - (intOf pv).toNat)
  case atStart => exact ⟨p0, need0, hp0, rfl, rfl, by omega, rfl, Below.refl _ _⟩
  case round =>
    obtain ⟨p, need, hp, rfl, rfl, hneed, HE, hbel⟩ := hrel
    by_cases h0 : need = 0
    · subst h0
      have HF : Hid (extI R n (toks.drop p0) need0 = (p : Int)) := by
        have := HE.out
        rw [ext_zero] at this
        show _ = _
        unfold extI
        rw [← this]
        simp only [List.length_drop]
        omega
      clear HE
      go_wp2
      go_ret
      exact ⟨ret_int HF.out.symm, hbel⟩
    · by_cases hsh : n - p < need
      · have HF : Hid (extI R n (toks.drop p0) need0 = -1) := extI_none (by rw [← HE.out]; exact ext_short (by simp; omega))
        clear HE
        go_wp2
        go_ret
        exact ⟨ret_int HF.out.symm, hbel⟩
      · obtain ⟨t, ht⟩ : ∃ t, toks[p]? = some t := ⟨toks[p], List.getElem?_eq_getElem (by omega)⟩
        obtain ⟨d0, d1, d2, d3, d4, d5, d6, d7⟩ := (HROW.out.below hbel hb).head ht
        obtain ⟨wk, wc, wf, wo⟩ := HWF.out t (List.mem_of_getElem? ht)
        have hqr := half_range wc
        have HD := HE.out
        rw [drop_at ht] at HD
        have HX : Hid (ext R (t :: toks.drop (p + 1)) need = ext R (toks.drop p0) need0) := HD
        clear HE HD
        obtain ⟨q, hqq⟩ : ∃ q, q = t.count.tdiv 2 := ⟨_, rfl⟩
        rw [← hqq] at hqr
        have HQ : Hid (half t = q) := hqq.symm
        have hq : t.count.tdiv 2 = q := hqq.symm
        clear hqq
        have hp' : p + 1 ≤ n := by omega
        rcases hat : t.attr with _ | _
        · rw [hat] at d1
          have HA := hide hat
          clear hat
          rcases hT : isText t.kind with _ | _
          · rcases h13 : (t.kind == 13) with _ | _
            · rcases hS : isSeq t.kind with _ | _
              · rcases h14 : (t.kind == 14) with _ | _
                · have k13 : t.kind ≠ 13 := by simpa using h13
                  have k14 : t.kind ≠ 14 := by simpa using h14
                  have hok : okTok R t := ⟨fun h => absurd h (by rw [hT]; simp [k13]), fun h => absurd h k13, fun h => absurd h (by rw [hS]; simp), fun h => absurd h k14⟩
                  have hkd : kids t = 0 := by unfold kids; rw [if_neg (by simp [hS]), if_neg k14]
                  clear k13 k14
                  have HF : Hid (ext R (toks.drop (p + 1)) (need - 1) = ext R (toks.drop p0) need0) := by
                    show _ = _
                    rw [← HX.out, ext_built h0 HA.out hok]
                    congr 1
                    omega
                  clear HX hok hkd
                  go_wp2_with (first | (go_at_call 34; refine (isText_any _ _).mono ?_; rintro e w' ⟨rfl, rfl⟩) | (go_at_call 35; refine (isSeq_any _ _).mono ?_; rintro e w' ⟨rfl, rfl⟩))
                  go_roundw
                  case rel => exact ⟨p + 1, need - 1, by omega, by go_num, by go_num, by omega, HF, hbel.alloc (by have := hbel.size; omega) _⟩
                  case measure => simp [intOf]; omega
                · have k14 : t.kind = 14 := by simpa using h14
                  have hkd : kids t = 2 * q.toNat := by unfold kids; rw [if_neg (by simp [hS]), if_pos k14, HQ.out]
                  have HK := hide hkd
                  clear hkd
                  by_cases hq0 : q < 0
                  · have hbad : ¬ okTok R t := fun h => by have := h.2.2.2 k14; rw [HQ.out] at this; omega
                    clear k14
                    have HF : Hid (extI R n (toks.drop p0) need0 = -1) := extI_none (by rw [← HX.out]; exact ext_refused h0 HA.out hbad)
                    clear HX hbad
                    go_wp2_with (first | (go_at_call 34; refine (isText_any _ _).mono ?_; rintro e w' ⟨rfl, rfl⟩) | (go_at_call 35; refine (isSeq_any _ _).mono ?_; rintro e w' ⟨rfl, rfl⟩))
                    go_ret
                    exact ⟨ret_int HF.out.symm, hbel.alloc (by have := hbel.size; omega) _⟩
                  · by_cases hqn : (n : Int) < q
                    · have hok : okTok R t := ⟨fun h => absurd h (by rw [hT]; simp; omega), fun h => absurd h (by omega), fun h => absurd h (by rw [hS]; simp), fun _ => (by rw [HQ.out]; omega)⟩
                      clear k14
                      have HF : Hid (extI R n (toks.drop p0) need0 = -1) := extI_none (by rw [← HX.out]; exact (by rw [ext_built h0 HA.out hok, HK.out]; exact ext_short (by simp; omega)))
                      clear HX hok
                      go_wp2_with (first | (go_at_call 34; refine (isText_any _ _).mono ?_; rintro e w' ⟨rfl, rfl⟩) | (go_at_call 35; refine (isSeq_any _ _).mono ?_; rintro e w' ⟨rfl, rfl⟩))
                      go_ret
                      exact ⟨ret_int HF.out.symm, hbel.alloc (by have := hbel.size; omega) _⟩
                    · have hok : okTok R t := ⟨fun h => absurd h (by rw [hT]; simp; omega), fun h => absurd h (by omega), fun h => absurd h (by rw [hS]; simp), fun _ => (by rw [HQ.out]; omega)⟩
                      clear k14
                      have HF : Hid (ext R (toks.drop (p + 1)) (need - 1 + 2 * q.toNat) = ext R (toks.drop p0) need0) := by
                        show _ = _
                        rw [← HX.out, ext_built h0 HA.out hok]
                        congr 1
                        rw [HK.out]
                      clear HX hok
                      go_wp2_with (first | (go_at_call 34; refine (isText_any _ _).mono ?_; rintro e w' ⟨rfl, rfl⟩) | (go_at_call 35; refine (isSeq_any _ _).mono ?_; rintro e w' ⟨rfl, rfl⟩))
                      go_roundw
                      case rel => exact ⟨p + 1, need - 1 + 2 * q.toNat, by omega, by go_num, by go_num, by omega, HF, hbel.alloc (by have := hbel.size; omega) _⟩
                      case measure => simp [intOf]; omega
              · obtain ⟨_, _, h14⟩ := kind_seq hS
                have k13 : t.kind ≠ 13 := by simpa using h13
                have k14 : t.kind ≠ 14 := by simpa using h14
                have hkd : kids t = t.count.toNat := by unfold kids; rw [if_pos hS]
                have HK := hide hkd
                clear hkd
                by_cases hq0 : t.count < 0
                · have hbad : ¬ okTok R t := fun h => by have := h.2.2.1 hS; omega
                  clear k13 k14
                  have HF : Hid (extI R n (toks.drop p0) need0 = -1) := extI_none (by rw [← HX.out]; exact ext_refused h0 HA.out hbad)
                  clear HX hbad
                  go_wp2_with (first | (go_at_call 34; refine (isText_any _ _).mono ?_; rintro e w' ⟨rfl, rfl⟩) | (go_at_call 35; refine (isSeq_any _ _).mono ?_; rintro e w' ⟨rfl, rfl⟩))
                  go_ret
                  exact ⟨ret_int HF.out.symm, hbel.alloc (by have := hbel.size; omega) _⟩
                · have hok : okTok R t := ⟨fun h => absurd h (by rw [hT]; simp [k13]), fun h => absurd h k13, fun _ => by omega, fun h => absurd h k14⟩
                  clear k13 k14
                  by_cases hqn : (n : Int) < t.count
                  · have HF : Hid (extI R n (toks.drop p0) need0 = -1) := extI_none (by rw [← HX.out]; exact (by rw [ext_built h0 HA.out hok, HK.out]; exact ext_short (by simp; omega)))
                    clear HX hok
                    go_wp2_with (first | (go_at_call 34; refine (isText_any _ _).mono ?_; rintro e w' ⟨rfl, rfl⟩) | (go_at_call 35; refine (isSeq_any _ _).mono ?_; rintro e w' ⟨rfl, rfl⟩))
                    go_ret
                    exact ⟨ret_int HF.out.symm, hbel.alloc (by have := hbel.size; omega) _⟩
                  · have HF : Hid (ext R (toks.drop (p + 1)) (need - 1 + t.count.toNat) = ext R (toks.drop p0) need0) := by
                      show _ = _
                      rw [← HX.out, ext_built h0 HA.out hok]
                      congr 1
                      rw [HK.out]
                    clear HX hok
                    go_wp2_with (first | (go_at_call 34; refine (isText_any _ _).mono ?_; rintro e w' ⟨rfl, rfl⟩) | (go_at_call 35; refine (isSeq_any _ _).mono ?_; rintro e w' ⟨rfl, rfl⟩))
                    go_roundw
                    case rel => exact ⟨p + 1, need - 1 + t.count.toNat, by omega, by go_num, by go_num, by omega, HF, hbel.alloc (by have := hbel.size; omega) _⟩
                    case measure => simp [intOf]; omega
            · have k13 : t.kind = 13 := by simpa using h13
              have hS : isSeq t.kind = false := by rw [k13]; decide
              have h14 : (t.kind == 14) = false := by rw [k13]; decide
              have HK13 := hide k13
              have hkd : kids t = 0 := by unfold kids; rw [if_neg (by simp [hS]), if_neg (by omega)]
              have HK := hide hkd
              clear hkd k13
              by_cases hf : t.frm < 0
              · have hbad : ¬ okTok R t := fun h => by have := h.1 (.inr HK13.out); omega
                have HF : Hid (extI R n (toks.drop p0) need0 = -1) := extI_none (by rw [← HX.out]; exact ext_refused h0 HA.out hbad)
                clear HX hbad
                go_wp2_with (first | (go_at_call 34; refine (isText_any _ _).mono ?_; rintro e w' ⟨rfl, rfl⟩) | (go_at_call 35; refine (isSeq_any _ _).mono ?_; rintro e w' ⟨rfl, rfl⟩))
                go_ret
                exact ⟨ret_int HF.out.symm, hbel.alloc (by have := hbel.size; omega) _⟩
              · by_cases hfo : t.to < t.frm
                · have hbad : ¬ okTok R t := fun h => by have := h.1 (.inr HK13.out); omega
                  have HF : Hid (extI R n (toks.drop p0) need0 = -1) := extI_none (by rw [← HX.out]; exact ext_refused h0 HA.out hbad)
                  clear HX hbad
                  go_wp2_with (first | (go_at_call 34; refine (isText_any _ _).mono ?_; rintro e w' ⟨rfl, rfl⟩) | (go_at_call 35; refine (isSeq_any _ _).mono ?_; rintro e w' ⟨rfl, rfl⟩))
                  go_ret
                  exact ⟨ret_int HF.out.symm, hbel.alloc (by have := hbel.size; omega) _⟩
                · by_cases hoR : (R : Int) < t.to
                  · have hbad : ¬ okTok R t := fun h => by have := h.1 (.inr HK13.out); omega
                    have HF : Hid (extI R n (toks.drop p0) need0 = -1) := extI_none (by rw [← HX.out]; exact ext_refused h0 HA.out hbad)
                    clear HX hbad
                    go_wp2_with (first | (go_at_call 34; refine (isText_any _ _).mono ?_; rintro e w' ⟨rfl, rfl⟩) | (go_at_call 35; refine (isSeq_any _ _).mono ?_; rintro e w' ⟨rfl, rfl⟩))
                    go_ret
                    exact ⟨ret_int HF.out.symm, hbel.alloc (by have := hbel.size; omega) _⟩
                  · by_cases h4 : t.to - t.frm < 4
                    · have hbad : ¬ okTok R t := fun h => by have := h.2.1 HK13.out; omega
                      have HF : Hid (extI R n (toks.drop p0) need0 = -1) := extI_none (by rw [← HX.out]; exact ext_refused h0 HA.out hbad)
                      clear HX hbad
                      go_wp2_with (first | (go_at_call 34; refine (isText_any _ _).mono ?_; rintro e w' ⟨rfl, rfl⟩) | (go_at_call 35; refine (isSeq_any _ _).mono ?_; rintro e w' ⟨rfl, rfl⟩))
                      go_ret
                      exact ⟨ret_int HF.out.symm, hbel.alloc (by have := hbel.size; omega) _⟩
                    · have hok : okTok R t := ⟨fun _ => ⟨by omega, by omega, by omega⟩, fun _ => by omega, fun h => absurd h (by rw [hS]; simp), fun h => by have := HK13.out; omega⟩
                      have HF : Hid (ext R (toks.drop (p + 1)) (need - 1) = ext R (toks.drop p0) need0) := by
                        show _ = _
                        rw [← HX.out, ext_built h0 HA.out hok]
                        congr 1
                        rw [HK.out]; omega
                      clear HX hok
                      go_wp2_with (first | (go_at_call 34; refine (isText_any _ _).mono ?_; rintro e w' ⟨rfl, rfl⟩) | (go_at_call 35; refine (isSeq_any _ _).mono ?_; rintro e w' ⟨rfl, rfl⟩))
                      go_roundw
                      case rel => exact ⟨p + 1, need - 1, by omega, by go_num, by go_num, by omega, HF, hbel.alloc (by have := hbel.size; omega) _⟩
                      case measure => simp [intOf]; omega
          · obtain ⟨h13, hS, h14⟩ := kind_text hT
            have k13 : t.kind ≠ 13 := by simpa using h13
            have k14 : t.kind ≠ 14 := by simpa using h14
            have hkd : kids t = 0 := by unfold kids; rw [if_neg (by simp [hS]), if_neg k14]
            have HK := hide hkd
            have HN := hide (And.intro k13 k14)
            clear hkd k13 k14
            by_cases hf : t.frm < 0
            · have hbad : ¬ okTok R t := fun h => by have := h.1 (.inl hT); omega
              have HF : Hid (extI R n (toks.drop p0) need0 = -1) := extI_none (by rw [← HX.out]; exact ext_refused h0 HA.out hbad)
              clear HX hbad
              go_wp2_with (first | (go_at_call 34; refine (isText_any _ _).mono ?_; rintro e w' ⟨rfl, rfl⟩) | (go_at_call 35; refine (isSeq_any _ _).mono ?_; rintro e w' ⟨rfl, rfl⟩))
              go_ret
              exact ⟨ret_int HF.out.symm, hbel.alloc (by have := hbel.size; omega) _⟩
            · by_cases hfo : t.to < t.frm
              · have hbad : ¬ okTok R t := fun h => by have := h.1 (.inl hT); omega
                have HF : Hid (extI R n (toks.drop p0) need0 = -1) := extI_none (by rw [← HX.out]; exact ext_refused h0 HA.out hbad)
                clear HX hbad
                go_wp2_with (first | (go_at_call 34; refine (isText_any _ _).mono ?_; rintro e w' ⟨rfl, rfl⟩) | (go_at_call 35; refine (isSeq_any _ _).mono ?_; rintro e w' ⟨rfl, rfl⟩))
                go_ret
                exact ⟨ret_int HF.out.symm, hbel.alloc (by have := hbel.size; omega) _⟩
              · by_cases hoR : (R : Int) < t.to
                · have hbad : ¬ okTok R t := fun h => by have := h.1 (.inl hT); omega
                  have HF : Hid (extI R n (toks.drop p0) need0 = -1) := extI_none (by rw [← HX.out]; exact ext_refused h0 HA.out hbad)
                  clear HX hbad
                  go_wp2_with (first | (go_at_call 34; refine (isText_any _ _).mono ?_; rintro e w' ⟨rfl, rfl⟩) | (go_at_call 35; refine (isSeq_any _ _).mono ?_; rintro e w' ⟨rfl, rfl⟩))
                  go_ret
                  exact ⟨ret_int HF.out.symm, hbel.alloc (by have := hbel.size; omega) _⟩
                · have hok : okTok R t := ⟨fun _ => ⟨by omega, by omega, by omega⟩, fun h => absurd h HN.out.1, fun h => absurd h (by rw [hS]; simp), fun h => absurd h HN.out.2⟩
                  have HF : Hid (ext R (toks.drop (p + 1)) (need - 1) = ext R (toks.drop p0) need0) := by
                    show _ = _
                    rw [← HX.out, ext_built h0 HA.out hok]
                    congr 1
                    rw [HK.out]; omega
                  clear HX hok
                  go_wp2_with (first | (go_at_call 34; refine (isText_any _ _).mono ?_; rintro e w' ⟨rfl, rfl⟩) | (go_at_call 35; refine (isSeq_any _ _).mono ?_; rintro e w' ⟨rfl, rfl⟩))
                  go_roundw
                  case rel => exact ⟨p + 1, need - 1, by omega, by go_num, by go_num, by omega, HF, hbel.alloc (by have := hbel.size; omega) _⟩
                  case measure => simp [intOf]; omega
        · rw [hat] at d1
          have HA := hide hat
          clear hat
          by_cases hq0 : 0 < q
          · by_cases hqn : (n : Int) < q
            · have HF : Hid (extI R n (toks.drop p0) need0 = -1) := extI_none (by rw [← HX.out, ext_attr h0 HA.out, HQ.out]; exact ext_short (by simp; omega))
              clear HX
              go_wp2
              go_ret
              exact ⟨ret_int HF.out.symm, hbel.alloc (by have := hbel.size; omega) _⟩
            · have HF : Hid (ext R (toks.drop (p + 1)) (need + 2 * q.toNat) = ext R (toks.drop p0) need0) := by
                show _ = _
                rw [← HX.out, ext_attr h0 HA.out, HQ.out]
              clear HX
              go_wp2
              go_roundw
              case rel => exact ⟨p + 1, need + 2 * q.toNat, by omega, by go_num, by go_num, by omega, HF, hbel.alloc (by have := hbel.size; omega) _⟩
              case measure => simp [intOf]; omega
          · have HF : Hid (ext R (toks.drop (p + 1)) need = ext R (toks.drop p0) need0) := by
              show _ = _
              rw [← HX.out, ext_attr h0 HA.out, HQ.out]
              congr 1
              omega
            clear HX
            go_wp2
            go_roundw
            case rel => exact ⟨p + 1, need, by omega, by go_num, rfl, by omega, HF, hbel.alloc (by have := hbel.size; omega) _⟩
            case measure => simp [intOf]; omega

end Go.Proofs.Qxb6601678a.Bv
