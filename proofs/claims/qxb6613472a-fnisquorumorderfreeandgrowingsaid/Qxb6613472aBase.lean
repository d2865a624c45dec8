/- THE EASY WALKS: lengths, increasing, cloneU64, firstUnarchived, quorumNeeded, cmp.Less, BinarySearch, present, holdsQuorum. -/
import Derived.Test.Qxb6613472aRows
import Derived.WalkKit
import Derived.WalkSpells
import Derived.WalkLawsBesides
import Derived.Deep.OwnRows
import Derived.Deep.QuietTactic
import Derived.BigQuiet
import Derived.Lib.SliceRun
import Derived.WalkSmall
import Derived.OpenShut
namespace Go.Proofs.Qxb6613472a.Base
open Go.RowKit Go.Deep Go.WideShapes
set_option linter.unusedVariables false
set_option maxRecDepth 100000

/-- A slice of uint64 whose elements are f 0, .., f (len - 1). -/
structure Row (w : World) (a : Option Addr) (len b off : Nat) (f : Nat → Int) : Prop where
  addr : 0 < len → a = some ⟨b, off, none⟩
  cell : ∀ i, i < len → w.cell? ⟨b, off + i, none⟩ = some (.int .u64 (f i))

theorem Row.below {w w' : World} {a : Option Addr} {len b off : Nat} {f : Nat → Int} (h : Row w a len b off f) (hb : Below w.heap.size w w') : Row w' a len b off f :=
  ⟨h.addr, fun i hi => (hb.cell (p := ⟨b, off + i, none⟩) (World.block_lt_of_cell? _ _ (h.cell i hi))).trans (h.cell i hi)⟩
theorem Row.low {w w' : World} {a : Option Addr} {len b off B : Nat} {f : Nat → Int} (h : Row w a len b off f) (hb : Below B w w') (hB : 0 < len → b < B) : Row w' a len b off f :=
  ⟨h.addr, fun i hi => (hb.cell (p := ⟨b, off + i, none⟩) (hB (by omega))).trans (h.cell i hi)⟩
theorem Row.lt {w : World} {a : Option Addr} {len b off : Nat} {f : Nat → Int} (h : Row w a len b off f) (hl : 0 < len) : b < w.heap.size := World.block_lt_of_cell? _ _ (h.cell 0 hl)

theorem drew_add (w : World) (q n : Nat) : (w.drewN q).drewN n = w.drewN (q + n) := by simp

def Incr (n : Nat) (f : Nat → Int) : Prop := ∀ i, i + 1 < n → f i < f (i + 1)

def IncrPost (w : World) (n : Nat) (f : Nat → Int) (e : Ending) (w' : World) : Prop :=
  ((e = .returned (.bool true) ∧ Incr n f) ∨ e = .returned (.bool false)) ∧ ∃ k, w' = w.drewN k

theorem drew_zero (w : World) : w = w.drewN 0 := by simp [World.drewN]

set_option maxHeartbeats 400000 in
theorem increasing_any (a : Option Addr) (len cap b off : Nat) (f : Nat → Int) (w : World) (hl : len ≤ 1048576) (h : Row w a len b off f) :
    Calls Try.prog 6 #[.slice a len cap] w fun e w' => IncrPost w len f e w' := by
  go_enter Try.func6, Try.ntmps6
  go_wp2
  go_loopw [3] (fun i wr => ∃ (k : Nat) (q : Nat), 1 ≤ k ∧ (k ≤ len ∨ k = 1) ∧ i = .int .i64 k ∧ wr = w.drewN q ∧ ∀ j, j + 1 < k → f j < f (j + 1)) (fun i _ => len - (intOf i).toNat)
  case atStart => exact ⟨1, 0, Nat.le_refl _, .inr rfl, rfl, drew_zero w, fun j hj => absurd hj (by omega)⟩
  case round =>
    obtain ⟨k, q, hk1, hk2, rfl, rfl, hinc⟩ := hrel
    by_cases hlt : k < len
    · have ha := h.addr (by omega)
      obtain ⟨k', rfl⟩ : ∃ k', k = k' + 1 := ⟨k - 1, by omega⟩
      have g0 := h.cell k' (by omega)
      have g1 := h.cell (k' + 1) hlt
      have b1 : ((k' : Int) + 1) < (len : Int) := by omega
      have b2 : ((k' : Int)) < (len : Int) := by omega
      subst ha
      by_cases hf : f (k' + 1) ≤ f k'
      · clear h hinc
        go_wp2
        go_quiet (fail)
        go_wp2
        go_ret
        exact ⟨.inr rfl, _, drew_add w q _⟩
      · clear h
        go_wp2
        go_quiet (fail)
        go_wp2
        go_roundw
        case rel =>
          refine ⟨k' + 1 + 1, _, by omega, .inl (by omega), by go_num, rfl, fun j hj => ?_⟩
          by_cases e : j = k'
          · subst e; omega
          · exact hinc j (by omega)
        case measure => simp [intOf]; omega
    · go_wp2
      go_ret
      exact ⟨.inl ⟨rfl, fun i hi => hinc i (by omega)⟩, _, rfl⟩

theorem below_setCells {B g : Nat} {w0 w : World} (hb : Below B w0 w) (hg : B ≤ g) (o : Nat) (vs : List Value) : Below B w0 (w.setCells g o vs) := by
  induction vs generalizing w o with
  | nil => exact hb
  | cons v vs ih => exact ih (hb.setCell (p := ⟨g, o, none⟩) hg v) (o + 1)

theorem info22 : (Try.prog.info? 22).map (fun i => (i.zero, i.size, i.bytes)) = some (some (.int .u64 0), 1, 8) := by kernel_rfl
theorem size22 : (Try.prog.info? 22).map (·.size) = some 1 := by kernel_rfl

/-- What cloneU64 hands back: a slice of the same numbers, in memory of the call's own. -/
def ClonePost (w : World) (len : Nat) (f : Nat → Int) (e : Ending) (w' : World) : Prop :=
  ∃ a' b', e = .returned (.slice a' len len) ∧ Below w.heap.size w w' ∧ Row w' a' len b' 0 f

set_option maxHeartbeats 400000 in
theorem clone_none (w : World) (f : Nat → Int) : Calls Try.prog 7 #[.slice none 0 0] w fun e w' => ClonePost w 0 f e w' := by
  have qT : ∀ (w : World) (a : Option Addr) (n c n' c' : Nat), (binOp .eql 23 (.slice a n c) (.slice none n' c')).run Try.prog w = .ok (.bool a.isNone) w := fun w a n c n' c' => Lib.run_eql_slice_nil w _ _ a n c n' c' Try.underlying23
  go_enter Try.func7, Try.ntmps7
  go_wp2
  go_ret
  exact ⟨none, 0, rfl, Below.refl _ _, fun h => absurd h (by omega), fun i hi => absurd hi (by omega)⟩

set_option maxHeartbeats 400000 in
theorem clone_zero (x : Addr) (cap : Nat) (w : World) (f : Nat → Int) : Calls Try.prog 7 #[.slice (some x) 0 cap] w fun e w' => ClonePost w 0 f e w' := by
  have qT : ∀ (w : World) (a : Option Addr) (n c n' c' : Nat), (binOp .eql 23 (.slice a n c) (.slice none n' c')).run Try.prog w = .ok (.bool a.isNone) w := fun w a n c n' c' => Lib.run_eql_slice_nil w _ _ a n c n' c' Try.underlying23
  have hmk := run_make_row' (P := Try.prog) 23 22 (.int .u64 0) 8 Try.underlying23 info22 rfl .i64 .i64 0 (by omega) (by omega)
  simp only [Int.natCast_zero] at hmk
  have hcp := fun w d => run_copy_none (P := Try.prog) w 23 23 3 22 d (some x) 0 0 0 cap Try.underlying23 size22 (by simp)
  go_enter Try.func7, Try.ntmps7
  go_wp2
  go_ret
  exact ⟨_, 0, rfl, (Below.refl _ _).alloc (Nat.le_refl _) _, fun h => absurd h (by omega), fun i hi => absurd hi (by omega)⟩

set_option maxHeartbeats 400000 in
theorem clone_some (b off len cap : Nat) (f : Nat → Int) (w : World) (hl : len ≤ 1048576) (h0 : 0 < len) (h : Row w (some ⟨b, off, none⟩) len b off f) :
    Calls Try.prog 7 #[.slice (some ⟨b, off, none⟩) len cap] w fun e w' => ClonePost w len f e w' := by
  have qT : ∀ (w : World) (a : Option Addr) (n c n' c' : Nat), (binOp .eql 23 (.slice a n c) (.slice none n' c')).run Try.prog w = .ok (.bool a.isNone) w := fun w a n c n' c' => Lib.run_eql_slice_nil w _ _ a n c n' c' Try.underlying23
  have hmk := run_make_row' (P := Try.prog) 23 22 (.int .u64 0) 8 Try.underlying23 info22 rfl .i64 .i64 len (by omega) (by omega)
  obtain ⟨cs, hcs⟩ : ∃ cs : List Value, cs = (List.range len).map fun i => Value.int .u64 (f i) := ⟨_, rfl⟩
  have hlen : cs.length = len := by rw [hcs]; simp
  have hget : ∀ j (hj : j < cs.length), cs[j] = Value.int .u64 (f j) := by intro j hj; simp [hcs]
  have hrow := World.rowIs_made w (.int .u64 0) len 22
  have hw1 : Below w.heap.size w (w.alloc (.cells (madeCells #[.int .u64 0] len) 22)) := (Below.refl _ _).alloc (Nat.le_refl _) _
  have hr1 := h.below hw1
  have hcp := run_copy_cells (P := Try.prog) (w.alloc (.cells (madeCells #[.int .u64 0] len) 22)) 23 23 3 22 w.heap.size 0 len len ⟨b, off, none⟩ len cap cs Try.underlying23 size22 (by rw [hlen]; simp)
    (fun j v hj => by
      obtain ⟨hj1, hj2⟩ := List.getElem?_eq_some_iff.1 hj
      rw [add_plain, hr1.cell j (by omega), ← hj2, hget j hj1])
    (fun j hj => by rw [Nat.zero_add, hrow.cell (by omega)]; rfl)
    (fun j hj => by rw [Nat.zero_add]; exact hrow.frozen j)
    (fun v hv => by rw [hcs] at hv; obtain ⟨i, _, rfl⟩ := List.mem_map.1 hv; rfl)
  rw [hlen] at hcp
  have fin : Row ((w.alloc (.cells (madeCells #[.int .u64 0] len) 22)).setCells w.heap.size 0 cs) (some ⟨w.heap.size, 0, none⟩) len w.heap.size 0 f := ⟨fun _ => rfl, fun i hi => by
    rw [World.cell?_setCells_in w.heap.size cs 0 _ (fun j hj => by rw [Nat.zero_add, hrow.cell (by omega)]; rfl) i (by omega), hget]⟩
  have fb : Below w.heap.size w ((w.alloc (.cells (madeCells #[.int .u64 0] len) 22)).setCells w.heap.size 0 cs) := below_setCells hw1 (Nat.le_refl _) 0 cs
  clear hrow hr1 hget hcs hlen h
  go_enter Try.func7, Try.ntmps7
  go_wp2
  go_ret
  exact ⟨_, _, rfl, fb, fin⟩

theorem clone_any (a : Option Addr) (len cap b off : Nat) (f : Nat → Int) (w : World) (hl : len ≤ 1048576) (hn : a = none → len = 0 ∧ cap = 0) (h : Row w a len b off f) :
    Calls Try.prog 7 #[.slice a len cap] w fun e w' => ClonePost w len f e w' := by
  by_cases h0 : len = 0
  · subst h0
    cases a with
    | none => obtain ⟨_, rfl⟩ := hn rfl; exact clone_none w f
    | some x => exact clone_zero x cap w f
  · obtain rfl := h.addr (by omega)
    exact clone_some b off len cap f w hl (by omega) h

set_option maxHeartbeats 400000 in
theorem first_any (x : Int) (w : World) (h0 : 0 ≤ x) (h1 : x ≤ 18446744073709551615) :
    Calls Try.prog 11 #[.int .u64 x] w fun e w' => e = .returned (.int .u64 (if x = 18446744073709551615 then x else x + 1)) ∧ w' = w := by
  by_cases h : x = 18446744073709551615
  · subst h
    go_enter Try.func11, Try.ntmps11
    go_wp2
    go_ret
    exact ⟨rfl, rfl⟩
  · have hb : (x == 18446744073709551615) = false := by rw [beq_eq_false_iff_ne]; exact h
    have h2 : x + 1 ≤ 18446744073709551615 := by omega
    rw [if_neg h]
    clear h
    go_enter Try.func11, Try.ntmps11
    go_wp2
    go_ret
    exact ⟨rfl, rfl⟩

/-- How many a quorum needs. -/
def need (size : Int) (n : Nat) : Int := if 0 < size then size else (n : Int) / 2 + 1

set_option maxHeartbeats 400000 in
theorem need_any (size : Int) (n : Nat) (hn : n ≤ 1048576) (w : World) :
    Calls Try.prog 20 #[.int .i64 size, .int .i64 n] w fun e w' => e = .returned (.int .i64 (need size n)) ∧ w' = w := by
  unfold need
  by_cases h : 0 < size
  · rw [if_pos h]
    go_enter Try.func20, Try.ntmps20
    go_wp2
    go_ret
    exact ⟨rfl, rfl⟩
  · rw [if_neg h]
    have hn' : (n : Int) ≤ 1048576 := by omega
    go_enter Try.func20, Try.ntmps20
    go_wp2
    go_ret
    exact ⟨rfl, rfl⟩

set_option maxHeartbeats 400000 in
theorem less_any (x y : Int) (w : World) : Calls Try.prog 23 #[.int .u64 x, .int .u64 y] w fun e w' => e = .returned (.bool (decide (x < y))) ∧ w' = w := by
  go_enter Try.func23, Try.ntmps23
  go_wp2
  go_ret
  exact ⟨rfl, rfl⟩

end Go.Proofs.Qxb6613472a.Base
