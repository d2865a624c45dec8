/- THE SHARED WALKS OF THIS SEAT: cloneInts, ZZnewTransaction, count, ZZcount, Rollback. -/
import Derived.Test.Qxb6613399aRows
import Derived.WalkKit
import Derived.WalkSpells
import Derived.WalkLawsBesides
import Derived.Deep.OwnRows
import Derived.Deep.QuietTactic
import Derived.BigQuiet
import Derived.Lib.SliceRun
namespace Go.Proofs.Qxb6613399a.Base
open Go.RowKit Go.Deep Go.WideShapes
set_option linter.unusedVariables false
set_option maxRecDepth 100000

theorem info2 : (Try.prog.info? 2).map (fun i => (i.zero, i.size, i.bytes)) = some (some (.int .i64 0), 1, 8) := by kernel_rfl

/-- WHAT THE WALK IS TOLD OF A SLICE OF INTEGERS THAT CAME IN. -/
def IsRow (k : IntKind) (w : World) (a : Option Addr) (len cap : Nat) (zs : List Int) : Prop :=
  (a = none ∧ len = 0 ∧ cap = 0 ∧ zs = []) ∨
  ∃ x, a = some x ∧ len ≤ cap ∧ cap ≤ maxLen ∧ zs.length = cap ∧ (∀ i, i < zs.length → w.cell? (x.add i) = some (.int k (zs.getD i 0))) ∧ ∀ n ∈ zs, (Lit.int k n).wf = true

set_option maxHeartbeats 400000 in
theorem clone_nil (w : World) :
    Calls Try.prog 8 #[.slice none 0 0] w fun e w' => e = .returned (.slice none 0 0) ∧ w' = w := by
  have qT : ∀ (w : World) (a : Option Addr) (n c n' c' : Nat), (binOp .eql 22 (.slice a n c) (.slice none n' c')).run Try.prog w = .ok (.bool a.isNone) w := fun w a n c n' c' => Lib.run_eql_slice_nil w _ _ a n c n' c' Try.underlying22
  go_enter Try.func8, Try.ntmps8
  go_wp2
  go_ret
  exact ⟨rfl, rfl⟩

set_option maxHeartbeats 400000 in
theorem clone_some (b off len cap : Nat) (zs : List Int) (w : World) (hl : len ≤ 65536)
    (hc : ∀ i, i < len → w.cell? ⟨b, off + i, none⟩ = some (.int .i64 (zs.getD i 0))) :
    Calls Try.prog 8 #[.slice (some ⟨b, off, none⟩) len cap] w fun e w' => e = .returned (.slice (some ⟨w.heap.size, 0, none⟩) len len) ∧
      Below w.heap.size w w' ∧ w'.rowIs w.heap.size 2 len (fun i => .int .i64 (zs.getD i 0)) := by
  have hmk := run_make_row' (P := Try.prog) 22 2 (.int .i64 0) 8 Try.underlying22 info2 rfl .i64 .i64 len (by omega) (by omega)
  have hbl : 0 < len → b < w.heap.size := fun h => World.block_lt_of_cell? _ _ (hc 0 h)
  have qT : ∀ (w : World) (a : Option Addr) (n c n' c' : Nat), (binOp .eql 22 (.slice a n c) (.slice none n' c')).run Try.prog w = .ok (.bool a.isNone) w := fun w a n c n' c' => Lib.run_eql_slice_nil w _ _ a n c n' c' Try.underlying22
  go_enter Try.func8, Try.ntmps8
  go_wp2
  clear hmk
  go_loopw [4] (fun i wr => ∃ k : Nat, k ≤ len ∧ i = .int .i64 k ∧ Below w.heap.size w wr ∧ wr.rowIs w.heap.size 2 len (fun i => if i < k then .int .i64 (zs.getD i 0) else .int .i64 0))
    (fun i _ => len - (intOf i).toNat)
  case atStart => exact ⟨0, Nat.zero_le _, rfl, (Below.refl _ _).alloc (Nat.le_refl _) _, (World.rowIs_made w _ len 2).congr (fun j _ => by simp)⟩
  case round =>
    obtain ⟨k, hk, rfl, hb, hr⟩ := hrel
    by_cases hlt : k < len
    · have g1 : wr.cell? ⟨b, off + k, none⟩ = some (.int .i64 (zs.getD k 0)) := by
        rw [hb.cell (p := ⟨b, off + k, none⟩) (hbl (by omega))]; exact hc k hlt
      have g2 : wr.cell? ⟨w.heap.size, k, none⟩ = some (.int .i64 0) := by simpa using hr.cell hlt
      have g3 : wr.frozen? ⟨w.heap.size, k, none⟩ = false := hr.frozen k
      clear hc
      go_wp2
      go_roundw
      case rel =>
        refine ⟨k + 1, by omega, by go_num, hb.setCell (Nat.le_refl _) _, (hr.set k _).congr (fun j _ => ?_)⟩
        by_cases e : j = k
        · subst e; simp
        · by_cases h2 : j < k
          · rw [if_neg e, if_pos h2, if_pos (by omega)]
          · rw [if_neg e, if_neg h2, if_neg (by omega)]
      case measure => simp [intOf]; omega
    · have hkl : k = len := by omega
      subst hkl
      clear hc
      go_wp2
      go_ret
      exact ⟨rfl, hb, hr.congr (fun j hj => by rw [if_pos hj])⟩

set_option maxHeartbeats 400000 in
theorem clone_spot (b off cap : Nat) (s : Nat) (w : World) :
    Calls Try.prog 8 #[.slice (some ⟨b, off, some s⟩) 0 cap] w fun e w' => e = .returned (.slice (some ⟨w.heap.size, 0, none⟩) 0 0) ∧ Below w.heap.size w w' := by
  have hmk := run_make_row' (P := Try.prog) 22 2 (.int .i64 0) 8 Try.underlying22 info2 rfl .i64 .i64 0 (by omega) (by omega)
  simp only [Int.natCast_zero] at hmk
  have qT : ∀ (w : World) (a : Option Addr) (n c n' c' : Nat), (binOp .eql 22 (.slice a n c) (.slice none n' c')).run Try.prog w = .ok (.bool a.isNone) w := fun w a n c n' c' => Lib.run_eql_slice_nil w _ _ a n c n' c' Try.underlying22
  go_enter Try.func8, Try.ntmps8
  go_wp2
  refine wp_loop_rounds 1 ?_; rw [rounds_succ]
  go_wp2
  go_ret
  exact ⟨rfl, (Below.refl _ _).alloc (Nat.le_refl _) _⟩

/-- WHAT IS KNOWN OF A SLICE OF int64 THAT THE CALL MADE: its cells, where there are any. -/
def Own (B : Nat) (w : World) (a : Option Addr) (len : Nat) : Prop :=
  0 < len → ∃ (x : Nat) (f : Nat → Int), a = some ⟨x, 0, none⟩ ∧ B ≤ x ∧ w.rowIs x 2 len (fun i => .int .i64 (f i))

theorem Own.below {B : Nat} {w w' : World} {a : Option Addr} {len : Nat} (h : Own B w a len) (hb : Below w.heap.size w w') : Own 0 w' a len := by
  intro hl
  obtain ⟨x, f, rfl, hx, hr⟩ := h hl
  exact ⟨x, f, rfl, Nat.zero_le _, hr.of_block (hb.block x hr.lt)⟩

theorem Own.zero {B : Nat} {w : World} {a : Option Addr} {len : Nat} (h : Own B w a len) : Own 0 w a len := h.below (Below.refl _ _)

theorem IsRow.below {k : IntKind} {w w' : World} {a : Option Addr} {len cap : Nat} {zs : List Int} (h : IsRow k w a len cap zs) (hb : Below w.heap.size w w') : IsRow k w' a len cap zs := by
  rcases h with h | ⟨x, hx, hlc, hm, hz, hcell, hwf⟩
  · exact .inl h
  · refine .inr ⟨x, hx, hlc, hm, hz, fun i hi => ?_, hwf⟩
    have h1 := hcell i hi
    rw [hb.cell (World.block_lt_of_cell? _ _ h1)]
    exact h1

theorem clone_any (a : Option Addr) (len cap : Nat) (zs : List Int) (w : World) (hl : len ≤ 65536) (h : IsRow .i64 w a len cap zs) :
    Calls Try.prog 8 #[.slice a len cap] w fun e w' => ∃ a', e = .returned (.slice a' len len) ∧ Below w.heap.size w w' ∧ Own w.heap.size w' a' len := by
  rcases h with ⟨rfl, rfl, rfl, rfl⟩ | ⟨x, rfl, hlc, hm, hz, hcell, hwf⟩
  · refine (clone_nil w).mono ?_
    rintro e w' ⟨rfl, rfl⟩
    exact ⟨none, rfl, Below.refl _ _, fun h => absurd h (by omega)⟩
  · obtain ⟨b, off, spot⟩ := x
    by_cases h0 : len = 0
    · subst h0
      cases spot with
      | none =>
        refine (clone_some b off 0 cap zs w hl (fun i hi => absurd hi (by omega))).mono ?_
        rintro e w' ⟨rfl, hb, hr⟩
        exact ⟨_, rfl, hb, fun h => absurd h (by omega)⟩
      | some s =>
        refine (clone_spot b off cap s w).mono ?_
        rintro e w' ⟨rfl, hb⟩
        exact ⟨_, rfl, hb, fun h => absurd h (by omega)⟩
    · have hspot : spot = none := by simpa [Addr.add] using World.cell?_spot (hcell 0 (by omega))
      subst hspot
      refine (clone_some b off len cap zs w hl (fun i hi => ?_)).mono ?_
      · rw [← add_plain]; exact hcell i (by omega)
      rintro e w' ⟨rfl, hb, hr⟩
      exact ⟨_, rfl, hb, fun _ => ⟨_, _, rfl, Nat.le_refl _, hr⟩⟩

set_option maxHeartbeats 400000 in
theorem new_any (seen : Int) (a : Option Addr) (len cap : Nat) (w : World) :
    Calls Try.prog 9 #[.pointer none, .int .i64 seen, .slice a len cap] w fun e w' => e = .returned (.pointer (some ⟨w.heap.size, 0, none⟩)) ∧
      w' = w.alloc (.cells #[.pointer none, .bool false, .int .i64 seen, .slice a len cap] 48) := by
  go_enter Try.func9, Try.ntmps9
  go_wp2
  go_ret
  exact ⟨rfl, rfl⟩

set_option maxHeartbeats 400000 in
theorem count_any (b : Nat) (seen : Int) (a : Option Addr) (len cap : Nat) (w : World)
    (h2 : w.cell? ⟨b, 2, none⟩ = some (.int .i64 seen)) (h3 : w.cell? ⟨b, 3, none⟩ = some (.slice a len cap)) :
    Calls Try.prog 21 #[.pointer (some ⟨b, 0, none⟩)] w fun e w' => e = .returned (.int .i64 (wrap64 (seen + len))) ∧ ∃ n, w' = w.drewN n := by
  go_enter Try.func21, Try.ntmps21
  go_wp2
  go_quiet (fail)
  go_wp2
  go_ret
  exact ⟨rfl, _, rfl⟩

set_option maxHeartbeats 400000 in
theorem zzcount_any (b : Nat) (seen : Int) (a : Option Addr) (len cap : Nat) (w : World)
    (h2 : w.cell? ⟨b, 2, none⟩ = some (.int .i64 seen)) (h3 : w.cell? ⟨b, 3, none⟩ = some (.slice a len cap)) :
    Calls Try.prog 10 #[.pointer (some ⟨b, 0, none⟩)] w fun e w' => e = .returned (.int .i64 (wrap64 (seen + len))) ∧ ∃ n, w' = w.drewN n := by
  go_enter Try.func10, Try.ntmps10
  go_wp2_with fail
  refine (count_any b seen a len cap _ h2 h3).mono ?_
  rintro e w' ⟨rfl, n, rfl⟩
  go_wp2
  go_ret
  exact ⟨rfl, _, rfl⟩

set_option maxHeartbeats 400000 in
theorem rollback_any (b : Nat) (v : Value) (w : World)
    (h3 : w.cell? ⟨b, 3, none⟩ = some v) (hf : w.frozen? ⟨b, 3, none⟩ = false) :
    Calls Try.prog 11 #[.pointer (some ⟨b, 0, none⟩)] w fun e w' => e = .returned (.tuple #[]) ∧ w' = w.setCell ⟨b, 3, none⟩ (.slice none 0 0) := by
  go_enter Try.func11, Try.ntmps11
  go_wp2
  go_end0
  exact ⟨rfl, rfl⟩

end Go.Proofs.Qxb6613399a.Base
