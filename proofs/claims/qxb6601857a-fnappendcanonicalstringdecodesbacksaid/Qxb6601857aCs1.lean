/-
  THE WALK OF appendCanonicalString.
-/
import Derived.Test.Qxb6601857aProg
import Derived.Test.Qxb6601857aPlain
import Derived.WalkKit
import Derived.WalkSpells
import Derived.WalkSmall
import Derived.Deep.OwnRows
import Derived.Deep.RegionLaw
import Derived.Lib.AppendStr
import Derived.Laws.CopyOwn
import Derived.ProofKit
import Derived.OpenShut
import Derived.Deep.QuietTactic
import Derived.BigQuiet
namespace Go.Proofs.Qxb6601857a
open Go.RowKit Go.ChangeShapes Go.WideShapes Go.ChangeAt
set_option linter.unusedVariables false

theorem hide {p : Prop} (h : p) : Hid p := h

theorem Try.info5 : (Try.prog.info? 5).map (fun i => (i.zero, i.size, i.bytes)) = some (some (.int .u8 0), 1, 1) := by kernel_rfl

/-! ### a buffer of the call's own -/

/-- In w the slice v owns the bytes xs, in a block from B on; below B nothing has turned since W0. -/
def Buf (B : Nat) (v : Value) (xs : List Int) (W0 w : World) : Prop :=
  w.ownsRow B 5 1 v xs.length (xs.map (Value.int .u8)) ∧ Below B W0 w ∧ B ≤ w.heap.size

theorem Buf.alloc {B : Nat} {v : Value} {xs : List Int} {W0 w : World} (h : Buf B v xs W0 w) (o : Obj) : Buf B v xs W0 (w.alloc o) :=
  ⟨h.1.alloc o, h.2.1.alloc h.2.2 o, Nat.le_trans h.2.2 ((Below.refl 0 w).alloc (Nat.zero_le _) o).size⟩

theorem Buf.drew {B : Nat} {v : Value} {xs : List Int} {W0 w : World} (h : Buf B v xs W0 w) : Buf B v xs W0 w.drew := ⟨h.1.drew, h.2.1.drew, h.2.2⟩

theorem Buf.grown {B : Nat} {v v' : Value} {xs ys : List Int} {W0 w w' : World} (h : Buf B v xs W0 w) (ho : w'.ownsRow B 5 1 v' (xs.length + ys.length) (xs.map (Value.int .u8) ++ ys.map (Value.int .u8))) (hg : w.grownBy w' v.ownBlock) : Buf B v' (xs ++ ys) W0 w' := by
  refine ⟨by rw [List.length_append, List.map_append]; exact ho, h.2.1.grown hg h.2.2 (fun k hk => (h.1.lt k hk).1), Nat.le_trans h.2.2 hg.size⟩

/-- the cells that a variadic slice has just laid -/
theorem cells_laid {w0 : World} {cs : Array Value} {ns : List Int} (hcs : cs.toList = ns.map (Value.int .u8)) :
    ∀ j u, (ns.map (Value.int .u8))[j]? = some u → (w0.alloc (.cells cs 5)).cell? ((⟨w0.heap.size, 0, none⟩ : Addr).add j) = some u := by
  intro j u hu
  rw [add_plain, World.cell?_alloc_at _ _ _ _ rfl]
  rw [← hcs] at hu
  simpa using hu

section
variable {ops : Array Oper} {rest : List Oper} {o : Oper} {a : Act} {Q : Exit → Act → World → Prop}

/-- 'b = append(b, x, y, ..)' -/
theorem wpList_buf (hgd : o.guard = none) (s x : Operand) (ho : o.op = .call { callee := .builtin .append, args := #[s, x], argTypes := #[22, 22] })
    (B : Nat) (v : Value) (xs : List Int) (hs : a.eval s = v) (W0 w0 : World) (cs : Array Value) (ns : List Int) (hcs : cs.toList = ns.map (Value.int .u8)) (hb : Buf B v xs W0 w0)
    (hx : a.eval x = .slice (some ⟨w0.heap.size, 0, none⟩) ns.length ns.length) (hlen : xs.length + ns.length ≤ 140737488355328)
    (h : ∀ v' w', Buf B v' (xs ++ ns) W0 w' → wpList Try.prog ops Q rest (a.put o.dst v') w') : wpList Try.prog ops Q (o :: rest) a (w0.alloc (.cells cs 5)) := by
  obtain ⟨i, hi, hz, hs1, hby⟩ := info_parts Try.info5
  have hb' := hb.alloc (.cells cs 5)
  refine wpList_append_own _ hgd s x 22 ho B 5 i (.int .u8 0) 1 1 Try.underlying22 hi hz hs1 hby rfl (by decide) v xs.length _ hs hb'.1 ⟨w0.heap.size, 0, none⟩ ns.length ns.length (ns.map (Value.int .u8)) hx (by simp) (cells_laid hcs) (ints_oneCell _ _) (by unfold maxLen; omega) (by omega) hb'.2.2 ?_
  intro v' w' ho' hg _
  exact h v' w' (hb'.grown ho' hg)

/-- 'b = append(b, "text"...)' -/
theorem wpList_buf_text {w : World} (hgd : o.guard = none) (s x : Operand) (ho : o.op = .call { callee := .builtin .append, args := #[s, x], argTypes := #[22, 9] })
    (B : Nat) (v : Value) (xs : List Int) (hs : a.eval s = v) (W0 : World) (hb : Buf B v xs W0 w) (t : ByteArray) (ns : List Int) (hx : a.eval x = .string t) (ht : Lib.strCells t = ns.map (Value.int .u8)) (hlen : xs.length + ns.length ≤ 140737488355328)
    (h : ∀ v' w', Buf B v' (xs ++ ns) W0 w' → wpList Try.prog ops Q rest (a.put o.dst v') w') : wpList Try.prog ops Q (o :: rest) a w := by
  obtain ⟨i, hi, hz, hs1, hby⟩ := info_parts Try.info5
  have hn : t.size = ns.length := by have := Lib.strCells_length t; rw [ht] at this; simpa using this.symm
  refine Lib.wpList_append_own_string w hgd s x 22 9 ho B 5 i Try.underlying22 Try.underlying9 hi hz hs1 hby v xs.length _ hs hb.1 t hx (by unfold maxLen; omega) (by omega) hb.2.2 ?_
  intro v' w' ho' hg _
  rw [hn, ht] at ho'
  exact h v' w' (hb.grown ho' hg)

/-- .. as one step of a region that draws -/
theorem step_buf {w : World} {K : Act → World → Prop} {E : Prop} (hgd : o.guard = none) (s x : Operand) (ho : o.op = .call { callee := .builtin .append, args := #[s, x], argTypes := #[22, 22] })
    (B : Nat) (v : Value) (xs : List Int) (hs : a.eval s = v) (W0 : World) (ns : List Int) (hb : Buf B v xs W0 w) (ad : Addr)
    (hx : a.eval x = .slice (some ad) ns.length ns.length) (hc : ∀ j u, (ns.map (Value.int .u8))[j]? = some u → w.cell? (ad.add j) = some u) (hlen : xs.length + ns.length ≤ 140737488355328)
    (h : ∀ v' w', Buf B v' (xs ++ ns) W0 w' → K (a.put o.dst v') w') : if Region.wanted o (yielded ops a.tmps) = true then Oper.wp Try.prog o a w K Q else E := by
  obtain ⟨i, hi, hz, hs1, hby⟩ := info_parts Try.info5
  have hw : Region.wanted o (yielded ops a.tmps) = true := by simp [Region.wanted, hgd]
  rw [if_pos hw]
  refine wp_append_own w s x 22 ho B 5 i (.int .u8 0) 1 1 Try.underlying22 hi hz hs1 hby rfl (by decide) v xs.length _ hs hb.1 ad ns.length ns.length (ns.map (Value.int .u8)) hx (by simp) hc (ints_oneCell _ _) (by unfold maxLen; omega) (by omega) hb.2.2 ?_
  intro v' w' ho' hg _
  exact h v' w' (hb.grown ho' hg)

/-- the first append: a slice without spare room moves to a new array -/
theorem wpList_first (hgd : o.guard = none) (s x : Operand) (ho : o.op = .call { callee := .builtin .append, args := #[s, x], argTypes := #[22, 22] })
    (ao : Option Addr) (xs : List Int) (hs : a.eval s = .slice ao xs.length xs.length) (w0 : World) (hnone : ao = none → xs.length = 0) (holds : ∀ b, ao = some b → ∀ j u, (xs.map (Value.int .u8))[j]? = some u → w0.cell? (b.add j) = some u)
    (c : Int) (hx : a.eval x = .slice (some ⟨w0.heap.size, 0, none⟩) 1 1) (hlen : xs.length + 1 ≤ 140737488355328)
    (h : ∀ v' w', Buf w0.heap.size v' (xs ++ [c]) w0 w' → wpList Try.prog ops Q rest (a.put o.dst v') w') : wpList Try.prog ops Q (o :: rest) a (w0.alloc (.cells #[.int .u8 c] 5)) := by
  obtain ⟨i, hi, hz, hs1, hby⟩ := info_parts Try.info5
  refine wpList_append_grows _ hgd s x 22 ho 5 i (.int .u8 0) 1 1 Try.underlying22 hi hz hs1 hby rfl (by decide) ao xs.length xs.length (xs.map (Value.int .u8)) hs (fun e => ⟨hnone e, hnone e⟩) (by simp) ?_ ⟨w0.heap.size, 0, none⟩ 1 1 [.int .u8 c] hx rfl (cells_laid (ns := [c]) rfl) (ints_oneCell _ [c]) (by omega) (by unfold maxLen; omega) (by omega) ?_
  · intro b hb j u hu
    have h1 := holds b hb j u hu
    exact (((Below.refl w0.heap.size w0).alloc (Nat.le_refl _) _).cell (p := b.add j) (World.block_lt_of_cell? _ _ h1)).trans h1
  · intro v' w' ho' hg
    refine h v' w' ⟨?_, ?_, ?_⟩
    · obtain ⟨e1, e2⟩ := ho'
      refine ⟨by simp, ?_⟩
      rcases e2 with ⟨rfl, e3⟩ | ⟨g, cap, cur, e3, e4, e5⟩
      · omega
      · refine .inr ⟨g, cap, cur, by simpa using e3, ?_, by simpa using e5⟩
        simp at e4
        omega
    · exact ((Below.refl _ _).alloc (Nat.le_refl _) _).grown hg (by simp) (fun k hk => by cases hk)
    · have := hg.size
      simp at this
      omega

end

/-- the bytes of a string, as numbers -/
def bl (s : ByteArray) : List Int := s.data.toList.map (fun b => (b.toNat : Int))

theorem bl_length (s : ByteArray) : (bl s).length = s.size := by simp [bl]

theorem bl_snoc (s : ByteArray) (k : Nat) (h : k < s.size) : (bl s).take (k + 1) = (bl s).take k ++ [(s[k].toNat : Int)] := by
  rw [List.take_succ_eq_append_getElem (by rw [bl_length]; exact h)]
  congr 1
  simp [bl]
  rfl

theorem byte_range (s : ByteArray) (k : Nat) (h : k < s.size) : 0 ≤ (s[k].toNat : Int) ∧ (s[k].toNat : Int) ≤ 255 := by
  have := s[k].toNat_lt
  omega

theorem hexIdx (n : Nat) (h : n < 16) (w : World) : (Instr.index 9 (.string ⟨#[48, 49, 50, 51, 52, 53, 54, 55, 56, 57, 97, 98, 99, 100, 101, 102]⟩) (.int .u8 n)).run Try.prog w = .ok (.int .u8 (Plain.hexd n)) w := by
  match n, h with
  | 0, _ | 1, _ | 2, _ | 3, _ | 4, _ | 5, _ | 6, _ | 7, _ | 8, _ | 9, _ | 10, _ | 11, _ | 12, _ | 13, _ | 14, _ | 15, _ => rfl
  | n + 16, h => exact absurd h (by omega)

theorem and15 (n : Nat) (h : n < 32) : bits BinOp.and IntKind.u8 (n : Int) 15 = ((n % 16 : Nat) : Int) := by
  match n, h with
  | 0, _ | 1, _ | 2, _ | 3, _ | 4, _ | 5, _ | 6, _ | 7, _ | 8, _ | 9, _ | 10, _ | 11, _ | 12, _ | 13, _ | 14, _ | 15, _ => decide
  | 16, _ | 17, _ | 18, _ | 19, _ | 20, _ | 21, _ | 22, _ | 23, _ | 24, _ | 25, _ | 26, _ | 27, _ | 28, _ | 29, _ | 30, _ | 31, _ => decide
  | n + 32, h => exact absurd h (by omega)

theorem esc_le (c : Int) : (Plain.esc c).length ≤ 6 := (Plain.esc_len c).2

set_option maxHeartbeats 4000000 in
theorem canon20 (ao : Option Addr) (xs : List Int) (s : ByteArray) (w : World) (hx : xs.length ≤ 1048577) (hs : s.size ≤ 1048577) (hnone : ao = none → xs.length = 0)
    (holds : ∀ b, ao = some b → ∀ j u, (xs.map (Value.int .u8))[j]? = some u → w.cell? (b.add j) = some u) :
    Calls Try.prog 20 #[.slice ao xs.length xs.length, .string s] w fun e w' => ∃ v, e = .returned v ∧ Buf w.heap.size v (xs ++ Plain.canon (bl s)) w w' := by
  go_enter Try.func20, Try.ntmps20
  go_wp2_with (at_builtin; refine wpList_first rfl (.tmp 7) (.tmp 8) rfl ao xs rfl w hnone holds 34 rfl (by omega) ?_)
  intro v0 w0 hb0
  clear holds hnone
  go_wp2_with fail
  go_loopw [0, 12] (fun v i wr => ∃ k : Nat, k ≤ s.size ∧ i = .int .i64 k ∧ Buf w.heap.size v (xs ++ [34] ++ Plain.body ((bl s).take k)) w wr) (fun _ i _ => s.size - (intOf i).toNat)
  case atStart => exact ⟨0, Nat.zero_le _, rfl, by simpa [Plain.body] using hb0⟩
  case round =>
    clear hb0
    obtain ⟨k, hk, rfl, hb⟩ := hrel
    rename_i v _ _
    by_cases hlt : k < s.size
    · have hr := byte_range s k hlt
      have hsn := bl_snoc s k hlt
      have hbl := Plain.body_len ((bl s).take k)
      have hbl2 : ((bl s).take k).length ≤ s.size := by rw [← bl_length s]; exact List.length_take_le' _ _
      have hln : (xs ++ [34] ++ Plain.body ((bl s).take k)).length ≤ 100000000 := by simp; omega
      have HS : Hid (∀ v w', Buf w.heap.size v (xs ++ [34] ++ Plain.body ((bl s).take k) ++ Plain.esc (s[k].toNat : Int)) w w' → Buf w.heap.size v (xs ++ [34] ++ Plain.body ((bl s).take (k + 1))) w w') := by
        intro v w' h
        rw [hsn, Plain.body_append]
        simpa [Plain.body] using h
      clear hsn hbl hbl2
      generalize hys : xs ++ [34] ++ Plain.body ((bl s).take k) = ys at hb hln HS
      clear hys
      by_cases h34 : ((s[k].toNat : Int) == 34) = true
      · have e34 : (s[k].toNat : Int) = 34 := by simpa using h34
        have E := hide e34
        clear e34
        go_wp2_with (at_builtin; refine wpList_buf rfl (.tmp 37) (.tmp 39) rfl w.heap.size _ ys rfl w wr _ [92, (s[k].toNat : Int)] rfl hb rfl (by simp; omega) ?_)
        intro v' w' hb'
        have HB := hide hb'
        clear hb' hb
        go_wp2
        go_roundw
        case rel => exact ⟨k + 1, by omega, by go_num, HS.out _ _ (by rw [Plain.esc_34 E.out]; exact HB.out)⟩
        case measure => simp [intOf]; omega
      have h34' : ((s[k].toNat : Int) == 34) = false := by simpa using h34
      clear h34
      by_cases h92 : ((s[k].toNat : Int) == 92) = true
      · have e92 : (s[k].toNat : Int) = 92 := by simpa using h92
        have E := hide e92
        clear e92
        go_wp2_with (at_builtin; refine wpList_buf rfl (.tmp 37) (.tmp 39) rfl w.heap.size _ ys rfl w wr _ [92, (s[k].toNat : Int)] rfl hb rfl (by simp; omega) ?_)
        intro v' w' hb'
        have HB := hide hb'
        clear hb' hb
        go_wp2
        go_roundw
        case rel => exact ⟨k + 1, by omega, by go_num, HS.out _ _ (by rw [Plain.esc_92 E.out]; exact HB.out)⟩
        case measure => simp [intOf]; omega
      have h92' : ((s[k].toNat : Int) == 92) = false := by simpa using h92
      clear h92
      by_cases h8 : ((s[k].toNat : Int) == 8) = true
      · have e8 : (s[k].toNat : Int) = 8 := by simpa using h8
        have E := hide e8
        clear e8
        go_wp2_with (at_builtin; refine wpList_buf_text rfl (.tmp 43) (.const (.string ⟨#[92, 98]⟩)) rfl w.heap.size _ ys rfl w hb ⟨#[92, 98]⟩ [92, 98] rfl rfl (by simp; omega) ?_)
        intro v' w' hb'
        have HB := hide hb'
        clear hb' hb
        go_wp2
        go_roundw
        case rel => exact ⟨k + 1, by omega, by go_num, HS.out _ _ (by rw [Plain.esc_8 E.out]; exact HB.out)⟩
        case measure => simp [intOf]; omega
      have h8' : ((s[k].toNat : Int) == 8) = false := by simpa using h8
      clear h8
      by_cases h12 : ((s[k].toNat : Int) == 12) = true
      · have e12 : (s[k].toNat : Int) = 12 := by simpa using h12
        have E := hide e12
        clear e12
        go_wp2_with (at_builtin; refine wpList_buf_text rfl (.tmp 47) (.const (.string ⟨#[92, 102]⟩)) rfl w.heap.size _ ys rfl w hb ⟨#[92, 102]⟩ [92, 102] rfl rfl (by simp; omega) ?_)
        intro v' w' hb'
        have HB := hide hb'
        clear hb' hb
        go_wp2
        go_roundw
        case rel => exact ⟨k + 1, by omega, by go_num, HS.out _ _ (by rw [Plain.esc_12 E.out]; exact HB.out)⟩
        case measure => simp [intOf]; omega
      have h12' : ((s[k].toNat : Int) == 12) = false := by simpa using h12
      clear h12
      by_cases h10 : ((s[k].toNat : Int) == 10) = true
      · have e10 : (s[k].toNat : Int) = 10 := by simpa using h10
        have E := hide e10
        clear e10
        go_wp2_with (at_builtin; refine wpList_buf_text rfl (.tmp 51) (.const (.string ⟨#[92, 110]⟩)) rfl w.heap.size _ ys rfl w hb ⟨#[92, 110]⟩ [92, 110] rfl rfl (by simp; omega) ?_)
        intro v' w' hb'
        have HB := hide hb'
        clear hb' hb
        go_wp2
        go_roundw
        case rel => exact ⟨k + 1, by omega, by go_num, HS.out _ _ (by rw [Plain.esc_10 E.out]; exact HB.out)⟩
        case measure => simp [intOf]; omega
      have h10' : ((s[k].toNat : Int) == 10) = false := by simpa using h10
      clear h10
      by_cases h13 : ((s[k].toNat : Int) == 13) = true
      · have e13 : (s[k].toNat : Int) = 13 := by simpa using h13
        have E := hide e13
        clear e13
        go_wp2_with (at_builtin; refine wpList_buf_text rfl (.tmp 55) (.const (.string ⟨#[92, 114]⟩)) rfl w.heap.size _ ys rfl w hb ⟨#[92, 114]⟩ [92, 114] rfl rfl (by simp; omega) ?_)
        intro v' w' hb'
        have HB := hide hb'
        clear hb' hb
        go_wp2
        go_roundw
        case rel => exact ⟨k + 1, by omega, by go_num, HS.out _ _ (by rw [Plain.esc_13 E.out]; exact HB.out)⟩
        case measure => simp [intOf]; omega
      have h13' : ((s[k].toNat : Int) == 13) = false := by simpa using h13
      clear h13
      by_cases h9 : ((s[k].toNat : Int) == 9) = true
      · have e9 : (s[k].toNat : Int) = 9 := by simpa using h9
        have E := hide e9
        clear e9
        go_wp2_with (at_builtin; refine wpList_buf_text rfl (.tmp 59) (.const (.string ⟨#[92, 116]⟩)) rfl w.heap.size _ ys rfl w hb ⟨#[92, 116]⟩ [92, 116] rfl rfl (by simp; omega) ?_)
        intro v' w' hb'
        have HB := hide hb'
        clear hb' hb
        go_wp2
        go_roundw
        case rel => exact ⟨k + 1, by omega, by go_num, HS.out _ _ (by rw [Plain.esc_9 E.out]; exact HB.out)⟩
        case measure => simp [intOf]; omega
      have h9' : ((s[k].toNat : Int) == 9) = false := by simpa using h9
      clear h9
      have N : Hid ((s[k].toNat : Int) ≠ 34 ∧ (s[k].toNat : Int) ≠ 92 ∧ (s[k].toNat : Int) ≠ 8 ∧ (s[k].toNat : Int) ≠ 12 ∧ (s[k].toNat : Int) ≠ 10 ∧ (s[k].toNat : Int) ≠ 13 ∧ (s[k].toNat : Int) ≠ 9) := by
        refine ⟨?_, ?_, ?_, ?_, ?_, ?_, ?_⟩
        · simpa using h34'
        · simpa using h92'
        · simpa using h8'
        · simpa using h12'
        · simpa using h10'
        · simpa using h13'
        · simpa using h9'
      by_cases hlo : (s[k].toNat : Int) < 32
      · have i1 : ∀ w, (Instr.index 9 (.string ⟨#[48, 49, 50, 51, 52, 53, 54, 55, 56, 57, 97, 98, 99, 100, 101, 102]⟩) (.int .u8 ((s[k].toNat : Int) / 16))).run Try.prog w = .ok (.int .u8 (Plain.hexd ((s[k].toNat : Int) / 16))) w := fun w => by
          have := hexIdx (s[k].toNat / 16) (by omega) w
          rwa [show ((s[k].toNat / 16 : Nat) : Int) = (s[k].toNat : Int) / 16 by omega] at this
        have i2 : ∀ w, (Instr.index 9 (.string ⟨#[48, 49, 50, 51, 52, 53, 54, 55, 56, 57, 97, 98, 99, 100, 101, 102]⟩) (.int .u8 (bits BinOp.and IntKind.u8 (s[k].toNat : Int) 15))).run Try.prog w = .ok (.int .u8 (Plain.hexd ((s[k].toNat : Int) % 16))) w := fun w => by
          have := hexIdx (s[k].toNat % 16) (by omega) w
          rw [and15 _ (by omega)]
          rwa [show Plain.hexd ((s[k].toNat % 16 : Nat) : Int) = Plain.hexd ((s[k].toNat : Int) % 16) by congr 1] at this
        go_wp2_with fail
        go_region_law (refine step_buf rfl (.tmp 21) (.tmp 28) rfl w.heap.size _ ys rfl w [92, 117, 48, 48, Plain.hexd ((s[k].toNat : Int) / 16), Plain.hexd ((s[k].toNat : Int) % 16)] (by exact (hb.alloc _).drew) ⟨wr.heap.size, 0, none⟩ (by rfl) (by exact cells_laid rfl) (by simp; omega) ?_; intro v' w' hb')
        all_goals
          have HB := hide hb'
          clear hb' hb i1 i2
          go_wp2
          go_roundw
          case rel => exact ⟨k + 1, by omega, by go_num, HS.out _ _ (by rw [Plain.esc_low N.out.2.2.1 N.out.2.2.2.1 N.out.2.2.2.2.1 N.out.2.2.2.2.2.1 N.out.2.2.2.2.2.2 hlo]; exact HB.out)⟩
          case measure => simp [intOf]; omega
      · go_wp2_with (at_builtin; refine wpList_buf rfl (.tmp 30) (.tmp 32) rfl w.heap.size _ ys rfl w wr _ [(s[k].toNat : Int)] rfl hb rfl (by simp; omega) ?_)
        intro v' w' hb'
        have HB := hide hb'
        clear hb' hb
        go_wp2
        go_roundw
        case rel => exact ⟨k + 1, by omega, by go_num, HS.out _ _ (by rw [Plain.esc_self N.out.1 N.out.2.1 (by omega)]; exact HB.out)⟩
        case measure => simp [intOf]; omega
    · have hks : (bl s).take k = bl s := List.take_of_length_le (by rw [bl_length]; omega)
      have hbl := Plain.body_len (bl s)
      rw [bl_length] at hbl
      have hln : (xs ++ [34] ++ Plain.body (bl s)).length ≤ 100000000 := by simp; omega
      rw [hks] at hb
      have HS : Hid (∀ v w', Buf w.heap.size v (xs ++ [34] ++ Plain.body (bl s) ++ [34]) w w' → Buf w.heap.size v (xs ++ Plain.canon (bl s)) w w') := by
        intro v w' h
        simpa [Plain.canon] using h
      clear hks hbl
      generalize hys : xs ++ [34] ++ Plain.body (bl s) = ys at hb hln HS
      clear hys
      go_wp2_with (at_builtin; refine wpList_buf rfl (.tmp 62) (.tmp 63) rfl w.heap.size _ ys rfl w wr _ [34] rfl hb rfl (by simp; omega) ?_)
      intro v' w' hb'
      have HB := hide (HS.out _ _ hb')
      clear hb' hb HS
      go_wp2
      go_ret
      exact ⟨_, rfl, HB.out⟩

theorem canon10 (ao : Option Addr) (xs : List Int) (s : ByteArray) (w : World) (hx : xs.length ≤ 1048577) (hs : s.size ≤ 1048577) (hnone : ao = none → xs.length = 0)
    (holds : ∀ b, ao = some b → ∀ j u, (xs.map (Value.int .u8))[j]? = some u → w.cell? (b.add j) = some u) :
    Calls Try.prog 10 #[.slice ao xs.length xs.length, .string s] w fun e w' => ∃ v, e = .returned v ∧ Buf w.heap.size v (xs ++ Plain.canon (bl s)) w w' := by
  have HH := hide holds
  clear holds
  go_enter Try.func10, Try.ntmps10
  go_wp2_with fail
  refine (canon20 ao xs s w hx hs hnone HH.out).mono ?_
  rintro e w1 ⟨v, rfl, hb⟩
  have HB := hide hb
  clear hb
  go_wp2
  go_ret
  exact ⟨_, rfl, HB.out⟩

/-- a buffer that is not empty, opened -/
theorem Buf.form {B : Nat} {v : Value} {xs : List Int} {W0 w : World} (h : Buf B v xs W0 w) (hne : 0 < xs.length) :
    ∃ g cap, v = .slice (some ⟨g, 0, none⟩) xs.length cap ∧ B ≤ g ∧ g < w.heap.size ∧ xs.length ≤ cap ∧ cap ≤ maxLen ∧ ∀ i, i < xs.length → w.cell? ⟨g, i, none⟩ = some (.int .u8 (xs.getD i 0)) := by
  obtain ⟨h1, h2, h3⟩ := h
  rcases h1.2 with ⟨_, h0⟩ | ⟨g, cap, cur, hv, hB, hg, hn, hm, hc, ht⟩
  · omega
  · refine ⟨g, cap, hv, hB, (Array.getElem?_eq_some_iff.1 hg).1, hn, hm, fun i hi => ?_⟩
    subst hv
    rw [h1.cellAt i (by omega)]
    simp [List.getD, hi]

theorem bl_append (s t : ByteArray) : bl (s ++ t) = bl s ++ bl t := by
  simp [bl]

theorem ret_bool {a b : Bool} (h : a = b) : Ending.returned (.bool a) = .returned (.bool b) := by rw [h]

end Go.Proofs.Qxb6601857a
