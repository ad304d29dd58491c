/-
  WHAT A VALUE THAT IS BUILT LOOKS LIKE IN MEMORY: 'VT'.
-/
import Derived.Test.Qxb6601678aBvPlain
import Derived.WalkKit
import Derived.WalkSpells
import Derived.Deep.OwnRows
namespace Go.Proofs.Qxb6601678a.Bv
open Go.RowKit
set_option linter.unusedVariables false

/-! ### the attributes ahead of a value: where each entry starts; the value's own token -/
def atl (R : Nat) : Nat → List Tok → List (List Tok) × List Tok
  | 0, ts => ([], ts)
  | _ + 1, [] => ([], [])
  | f + 1, t :: ts =>
    if t.attr = true then
      ((List.range (half t).toNat).map (fun j => aft R ts (2 * j)) ++ (atl R f (aft R ts (2 * (half t).toNat))).1, (atl R f (aft R ts (2 * (half t).toNat))).2)
    else ([], t :: ts)

theorem atl_attr {R f : Nat} {t : Tok} {ts : List Tok} (h : t.attr = true) :
    atl R (f + 1) (t :: ts) = ((List.range (half t).toNat).map (fun j => aft R ts (2 * j)) ++ (atl R f (aft R ts (2 * (half t).toNat))).1, (atl R f (aft R ts (2 * (half t).toNat))).2) := by
  rw [atl, if_pos h]

theorem atl_main {R f : Nat} {t : Tok} {ts : List Tok} (h : t.attr = false) : atl R f (t :: ts) = ([], t :: ts) := by
  cases f with
  | zero => rfl
  | succ f => rw [atl, if_neg (by simp [h])]

/-! ### the fields -/
def vBool (t : Tok) : Bool := if t.kind = 9 then t.boolean else false
def vInt (t : Tok) : Int := if t.kind = 3 then t.integer else 0
def vFloat (t : Tok) : Nat := if t.kind = 10 then t.double else 0
def vStr (raw : ByteArray) (t : Tok) : ByteArray := if isText t.kind = true then raw.extract t.frm.toNat t.to.toNat else if t.kind = 13 then raw.extract (t.frm.toNat + 4) t.to.toNat else ByteArray.empty
def vFmt (raw : ByteArray) (t : Tok) : ByteArray := if t.kind = 13 then raw.extract t.frm.toNat (t.frm.toNat + 3) else ByteArray.empty

/-- v is a slice of n elements of 'size' cells each, in a block from lo on and below hi; element j's cells meet P -/
def Arr (w : World) (lo hi : Nat) (v : Value) (size n : Nat) (P : Nat → List Value → Prop) : Prop :=
  ∃ g cap, v = .slice (some ⟨g, 0, none⟩) n cap ∧ lo ≤ g ∧ g < hi ∧ n ≤ cap ∧ cap ≤ maxLen ∧
    ∀ j, j < n → ∃ c : List Value, c.length = size ∧ (∀ i u, c[i]? = some u → w.cell? ⟨g, j * size + i, none⟩ = some u) ∧ P j c

/-- the ten cells cs are the value that the tokens ts open with -/
def VT (R : Nat) (raw : ByteArray) (keep : Bool) : Nat → Nat → Nat → World → List Value → List Tok → Prop
  | 0, _, _, _, _, _ => False
  | f + 1, lo, hi, w, cs, ts =>
    ∃ (t : Tok) (ms : List Tok) (iv ev av : Value),
      (atl R ts.length ts).2 = t :: ms ∧ t.attr = false ∧ okTok R t ∧
      cs = [.int .u8 t.kind, .bool (vBool t), .int .i64 (vInt t), .float .f64 (vFloat t), .string (vStr raw t), .string (vFmt raw t), iv, ev, .slice none 0 0, av] ∧
      ((isSeq t.kind = true → Arr w lo hi iv 10 t.count.toNat (fun j c => VT R raw keep f lo hi w c (aft R ms j))) ∧ (isSeq t.kind = false → iv = .slice none 0 0)) ∧
      ((t.kind = 14 → Arr w lo hi ev 20 (half t).toNat (fun j c => VT R raw keep f lo hi w (c.take 10) (aft R ms (2 * j)) ∧ VT R raw keep f lo hi w (c.drop 10) (aft R ms (2 * j + 1)))) ∧ (t.kind ≠ 14 → ev = .slice none 0 0)) ∧
      ((keep = true ∧ (atl R ts.length ts).1 ≠ [] → Arr w lo hi av 20 (atl R ts.length ts).1.length (fun j c => VT R raw keep f lo hi w (c.take 10) ((atl R ts.length ts).1.getD j []) ∧ VT R raw keep f lo hi w (c.drop 10) (aft R ((atl R ts.length ts).1.getD j []) 1))) ∧
        (¬ (keep = true ∧ (atl R ts.length ts).1 ≠ []) → av = .slice none 0 0))

theorem Arr.turn {w w' : World} {lo lo' hi hi' : Nat} {v : Value} {size n : Nat} {P Q : Nat → List Value → Prop} (h : Arr w lo hi v size n P) (hlo : lo' ≤ lo) (hhi : hi ≤ hi') (hag : ∀ g, lo ≤ g → g < hi → w'.heap[g]? = w.heap[g]?) (hPQ : ∀ j c, j < n → P j c → Q j c) : Arr w' lo' hi' v size n Q := by
  obtain ⟨g, cap, h1, h2, h3, h4, h5, h6⟩ := h
  refine ⟨g, cap, h1, by omega, by omega, h4, h5, fun j hj => ?_⟩
  obtain ⟨c, k1, k2, k3⟩ := h6 j hj
  refine ⟨c, k1, fun i u hu => ?_, hPQ j c hj k3⟩
  rw [World.cell?_of_block (w := w) (a := ⟨g, j * size + i, none⟩) (hag g h2 h3)]
  exact k2 i u hu

/-- a value stays what it is while its blocks stay -/
theorem VT.stays {R : Nat} {raw : ByteArray} {keep : Bool} : ∀ (f : Nat) {lo lo' hi hi' : Nat} {w w' : World} {cs : List Value} {ts : List Tok}, VT R raw keep f lo hi w cs ts → lo' ≤ lo → hi ≤ hi' → (∀ g, lo ≤ g → g < hi → w'.heap[g]? = w.heap[g]?) → VT R raw keep f lo' hi' w' cs ts := by
  intro f
  induction f with
  | zero => intro lo lo' hi hi' w w' cs ts h; exact h.elim
  | succ f ih =>
    intro lo lo' hi hi' w w' cs ts h hlo hhi hag
    obtain ⟨t, ms, iv, ev, av, h1, h2, h3, h4, ⟨h5, h6⟩, ⟨h7, h8⟩, ⟨h9, h10⟩⟩ := h
    refine ⟨t, ms, iv, ev, av, h1, h2, h3, h4, ⟨fun h => ?_, h6⟩, ⟨fun h => ?_, h8⟩, ⟨fun h => ?_, h10⟩⟩
    · exact (h5 h).turn hlo hhi hag (fun j c _ k => ih k hlo hhi hag)
    · exact (h7 h).turn hlo hhi hag (fun j c _ k => ⟨ih k.1 hlo hhi hag, ih k.2 hlo hhi hag⟩)
    · exact (h9 h).turn hlo hhi hag (fun j c _ k => ⟨ih k.1 hlo hhi hag, ih k.2 hlo hhi hag⟩)

theorem VT.grown {R : Nat} {raw : ByteArray} {keep : Bool} {f lo hi : Nat} {w w' : World} {cs : List Value} {ts : List Tok} {row : Option Nat} (h : VT R raw keep f lo hi w cs ts) (hg : w.grownBy w' row) (hhi : hi ≤ w.heap.size) (hr : ∀ k, row = some k → k < lo ∨ hi ≤ k) : VT R raw keep f lo hi w' cs ts :=
  VT.stays f h (Nat.le_refl _) (Nat.le_refl _) (fun g h1 h2 => hg.block g (by omega) (fun e => by have := hr g e.symm; omega))

theorem VT.wider {R : Nat} {raw : ByteArray} {keep : Bool} {f lo lo' hi hi' : Nat} {w : World} {cs : List Value} {ts : List Tok} (h : VT R raw keep f lo hi w cs ts) (h1 : lo' ≤ lo) (h2 : hi ≤ hi') : VT R raw keep f lo' hi' w cs ts :=
  VT.stays f h h1 h2 (fun _ _ _ => rfl)

/-- ten cells -/
theorem VT.ten {R : Nat} {raw : ByteArray} {keep : Bool} {f lo hi : Nat} {w : World} {cs : List Value} {ts : List Tok} (h : VT R raw keep f lo hi w cs ts) : cs.length = 10 := by
  cases f with
  | zero => exact h.elim
  | succ f =>
    obtain ⟨t, ms, iv, ev, av, h1, h2, h3, h4, _⟩ := h
    rw [h4]; rfl

/-- the ten cells, written out -/
theorem VT.cells {R : Nat} {raw : ByteArray} {keep : Bool} {f lo hi : Nat} {w : World} {cs : List Value} {ts : List Tok} (h : VT R raw keep f lo hi w cs ts) :
    ∃ (k : Int) (b : Bool) (n : Int) (d : Nat) (s m : ByteArray) (a1 : Option Addr) (l1 c1 : Nat) (a2 : Option Addr) (l2 c2 : Nat) (a3 : Option Addr) (l3 c3 : Nat),
      cs = [.int .u8 k, .bool b, .int .i64 n, .float .f64 d, .string s, .string m, .slice a1 l1 c1, .slice a2 l2 c2, .slice none 0 0, .slice a3 l3 c3] := by
  cases f with
  | zero => exact h.elim
  | succ f =>
    obtain ⟨t, ms, iv, ev, av, h1, h2, h3, h4, ⟨h5, h6⟩, ⟨h7, h8⟩, ⟨h9, h10⟩⟩ := h
    have s1 : ∃ a l c, iv = .slice a l c := by
      cases hs : isSeq t.kind with
      | true => obtain ⟨g, cap, e, _⟩ := h5 hs; exact ⟨_, _, _, e⟩
      | false => exact ⟨_, _, _, h6 hs⟩
    have s2 : ∃ a l c, ev = .slice a l c := by
      by_cases hs : t.kind = 14
      · obtain ⟨g, cap, e, _⟩ := h7 hs; exact ⟨_, _, _, e⟩
      · exact ⟨_, _, _, h8 hs⟩
    have s3 : ∃ a l c, av = .slice a l c := by
      by_cases hs : keep = true ∧ (atl R ts.length ts).1 ≠ []
      · obtain ⟨g, cap, e, _⟩ := h9 hs; exact ⟨_, _, _, e⟩
      · exact ⟨_, _, _, h10 hs⟩
    obtain ⟨a1, l1, c1, rfl⟩ := s1
    obtain ⟨a2, l2, c2, rfl⟩ := s2
    obtain ⟨a3, l3, c3, rfl⟩ := s3
    exact ⟨_, _, _, _, _, _, _, _, _, _, _, _, _, _, _, h4⟩

end Go.Proofs.Qxb6601678a.Bv
