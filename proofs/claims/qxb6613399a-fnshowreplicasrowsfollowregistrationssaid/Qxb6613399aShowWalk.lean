/- showReplicas, ZZshowReplicas, showsColumns. -/
import Derived.Test.Qxb6613399aRowsWalk
namespace Go.Proofs.Qxb6613399a.Show
open Go.RowKit Go.Deep Go.WideShapes Go.Proofs.Qxb6613399a.Base
set_option linter.unusedVariables false
set_option maxRecDepth 100000

/-- The five columns' block. -/
def colsObj : Obj := .cells #[.string ⟨#[110, 97, 109, 101]⟩, .string ⟨#[115, 111, 99, 107, 101, 116, 95, 97, 100, 100, 114, 101, 115, 115]⟩, .string ⟨#[115, 121, 110, 99, 95, 109, 111, 100, 101]⟩, .string ⟨#[115, 121, 115, 116, 101, 109, 95, 105, 110, 102, 111]⟩, .string ⟨#[100, 97, 116, 97, 95, 105, 110, 102, 111]⟩] 9

/-- WHAT SHOW REPLICAS HANDED BACK, in memory. -/
structure Shown (w : World) (F G n : Nat) (R : Nat → Rep) (nW : Int) : Prop where
  cols : w.heap[F]? = some colsObj
  rows : ∃ q : Nat → Nat, w.rowIs G 89 n (fun i => .slice (some ⟨q i, 0, none⟩) 5 5) ∧ ∀ i, i < n → RowBlk w (q i) (R i) nW

theorem Shown.kept {w w' : World} {F G n : Nat} {R : Nat → Rep} {nW : Int} (h : Shown w F G n R nW) (hk : Kept w w') : Shown w' F G n R nW := by
  obtain ⟨h1, q, h2, h3⟩ := h
  refine ⟨hk _ _ h1 rfl, q, ?_, fun i hi => (h3 i hi).kept hk⟩
  obtain ⟨cs, hcs⟩ := heap_rowIs h2
  exact h2.of_block ((hk _ _ hcs rfl).trans hcs.symm)

theorem Shown.below {w w' : World} {F G n : Nat} {R : Nat → Rep} {nW : Int} (h : Shown w F G n R nW) (hb : Below w.heap.size w w') : Shown w' F G n R nW := h.kept (Kept.of_below hb)

theorem shown_mk {w1 : World} {r G n : Nat} {R : Nat → Rep} {nW : Int} {c : Array Value} {q : Nat → Nat} (hr : w1.heap[r]? = some (.cells c 40)) (hrow : w1.rowIs G 89 n (fun i => .slice (some ⟨q i, 0, none⟩) 5 5)) (hblk : ∀ i, i < n → RowBlk w1 (q i) (R i) nW) (x y : Value) :
    Shown (((w1.alloc colsObj).setCell ⟨r, 0, none⟩ x).setCell ⟨r, 1, none⟩ y) w1.heap.size G n R nW := by
  have hG : G ≠ r := fun e => by
    subst e
    obtain ⟨cs, hcs⟩ := heap_rowIs hrow
    rw [hr] at hcs; injection hcs with hcs; injection hcs with _ h2 _; exact absurd h2 (by decide)
  refine ⟨?_, q, ?_, fun i hi => (hblk i hi).mono fun j o hj ho => ?_⟩
  · have := lt_of_some hr
    rw [Below.heap_setCell _ _ _ _ (by show _ ≠ r; omega), Below.heap_setCell _ _ _ _ (by show _ ≠ r; omega)]
    exact heap_alloc_new _ _
  · exact ((hrow.alloc _).setOther hG _).setOther hG _
  · have hj' : j ≠ r := fun e => by
      subst e; rw [hr] at hj; injection hj with hj; subst hj; simp [turns] at ho
    rw [Below.heap_setCell _ _ _ _ hj', Below.heap_setCell _ _ _ _ hj', Below.heap_alloc _ _ _ (lt_of_some hj)]
    exact hj

theorem Shown.set40 {w1 : World} {r F G n : Nat} {R : Nat → Rep} {nW : Int} {c : Array Value} (h : Shown w1 F G n R nW) (hr : w1.heap[r]? = some (.cells c 40)) (x y : Value) :
    Shown ((w1.setCell ⟨r, 0, none⟩ x).setCell ⟨r, 1, none⟩ y) F G n R nW := by
  obtain ⟨h1, q, hrow, hblk⟩ := h
  have hG : G ≠ r := fun e => by
    subst e
    obtain ⟨cs, hcs⟩ := heap_rowIs hrow
    rw [hr] at hcs; injection hcs with hcs; injection hcs with _ h2 _; exact absurd h2 (by decide)
  refine ⟨?_, q, ?_, fun i hi => (hblk i hi).mono fun j o hj ho => ?_⟩
  · have hF : F ≠ r := fun e => by
      subst e
      rw [hr] at h1; injection h1 with h1; injection h1 with _ h2 _; exact absurd h2 (by decide)
    rw [Below.heap_setCell _ _ _ _ hF, Below.heap_setCell _ _ _ _ hF]
    exact h1
  · exact (hrow.setOther hG _).setOther hG _
  · have hj' : j ≠ r := fun e => by
      subst e; rw [hr] at hj; injection hj with hj; subst hj; simp [turns] at ho
    rw [Below.heap_setCell _ _ _ _ hj', Below.heap_setCell _ _ _ _ hj']
    exact hj

def resAgg (F G n : Nat) : Value := .agg #[.slice (some ⟨F, 0, none⟩) 5 5, .slice (some ⟨G, 0, none⟩) n n]

def ShowPost (w : World) (n : Nat) (R : Nat → Rep) (nW : Int) (e : Ending) (w' : World) : Prop :=
  ∃ F G, e = .returned (.tuple #[resAgg F G n, .nilIface]) ∧ Below w.heap.size w w' ∧ Shown w' F G n R nW

set_option maxHeartbeats 400000 in
theorem show_any (B m n nW t : Nat) (wa : Option Addr) (wc : Nat) (v : Value) (ps : Nat → Nat) (R : Nat → Rep) (w : World) (h : Regs B w m (.slice wa nW wc) v n ps R) (hn : n ≤ 65537) (hW : nW ≤ 65536)
    (ht : w.cell? ⟨t, 0, none⟩ = some (.pointer (some ⟨m, 0, none⟩))) :
    Calls Try.prog 23 #[.pointer (some ⟨t, 0, none⟩), .agg #[.slice none 0 0, .slice none 0 0, .slice none 0 0]] w fun e w' => ShowPost w n R nW e w' := by
  have htl : t < w.heap.size := World.block_lt_of_cell? _ _ ht
  go_enter Try.func23, Try.ntmps23
  go_wp2_with fail
  have hb0 : Below w.heap.size w ((w.alloc (.cells #[.slice none 0 0, .slice none 0 0, .slice none 0 0] 88)).alloc (.cells #[.slice none 0 0, .slice none 0 0] 40)) := ((Below.refl _ _).alloc (Nat.le_refl _) _).alloc (by simp) _
  refine (rows_any B m n nW wa wc v ps R _ (h.below hb0) hn hW).mono ?_
  rintro e w1 ⟨rfl, hb1, q, hrow, hblk⟩
  have hz : w.heap.size + 2 ≤ w1.heap.size := by have := hb1.size; simpa using this
  have hr1 : w1.heap[w.heap.size + 1]? = some (.cells #[.slice none 0 0, .slice none 0 0] 40) := (hb1.block _ (by simp)).trans (new_two _ _ _)
  have hr2 : ∀ o, (w1.alloc o).heap[w.heap.size + 1]? = some (.cells #[.slice none 0 0, .slice none 0 0] 40) := fun o => (Below.heap_alloc _ _ _ (by omega)).trans hr1
  have c0 := fun o => cell_of_heap (hr2 o) 0 (u := .slice none 0 0) rfl
  have c1 := fun o => cell_of_heap (hr2 o) 1 (u := .slice none 0 0) rfl
  have f0 := fun o => frozen_of_heap (hr2 o) 0
  have f1 := fun o => frozen_of_heap (hr2 o) 1
  have hb2 : Below w.heap.size w w1 := hb0.trans (hb1.mono (by simp; omega))
  have HR : Hid (w1.heap[w.heap.size + 1]? = some (.cells #[.slice none 0 0, .slice none 0 0] 40)) := hr1
  clear hr1 hr2 hb0
  go_wp2_with fail
  refine bodyPost_ret (v := .tuple #[resAgg w1.heap.size (w.heap.size + 1 + 1) n, .nilIface]) (by simp [results, Try.results23, go_sem, resAgg, c0, c1]) rfl ⟨_, _, rfl, ?_, ?_⟩
  · refine Below.setCell (p := ⟨w.heap.size + 1, 1, none⟩) (Below.setCell (p := ⟨w.heap.size + 1, 0, none⟩) (hb2.alloc (by omega) _) (by show _ ≤ w.heap.size + 1; omega) _) (by show _ ≤ w.heap.size + 1; omega) _
  · exact shown_mk HR.out (by simpa using hrow) hblk _ _

set_option maxHeartbeats 400000 in
theorem zzshow_any (B m n nW t : Nat) (wa : Option Addr) (wc : Nat) (v : Value) (ps : Nat → Nat) (R : Nat → Rep) (w : World) (h : Regs B w m (.slice wa nW wc) v n ps R) (hn : n ≤ 65537) (hW : nW ≤ 65536)
    (ht : w.cell? ⟨t, 0, none⟩ = some (.pointer (some ⟨m, 0, none⟩))) :
    Calls Try.prog 18 #[.pointer (some ⟨t, 0, none⟩)] w fun e w' => ShowPost w n R nW e w' := by
  have htl : t < w.heap.size := World.block_lt_of_cell? _ _ ht
  go_enter Try.func18, Try.ntmps18
  go_wp2_with fail
  have hb0 : Below w.heap.size w (w.alloc (.cells #[.slice none 0 0, .slice none 0 0] 40)) := (Below.refl _ _).alloc (Nat.le_refl _) _
  refine (show_any B m n nW t wa wc v ps R _ (h.below hb0) hn hW ((hb0.cell (p := ⟨t, 0, none⟩) htl).trans ht)).mono ?_
  rintro e w1 ⟨F, G, rfl, hb1, hS⟩
  have hr1 : w1.heap[w.heap.size]? = some (.cells #[.slice none 0 0, .slice none 0 0] 40) := (hb1.block _ (by simp)).trans (heap_alloc_new _ _)
  have c0 := cell_of_heap hr1 0 (u := .slice none 0 0) rfl
  have c1 := cell_of_heap hr1 1 (u := .slice none 0 0) rfl
  have f0 := frozen_of_heap hr1 0
  have f1 := frozen_of_heap hr1 1
  have hb2 : Below w.heap.size w w1 := hb0.trans (hb1.mono (by simp))
  have HR : Hid (w1.heap[w.heap.size]? = some (.cells #[.slice none 0 0, .slice none 0 0] 40)) := hr1
  clear hr1 hb0
  simp only [resAgg]
  go_wp2_with fail
  refine bodyPost_ret (v := .tuple #[resAgg F G n, .nilIface]) (by simp [results, Try.results18, go_sem, resAgg, c0, c1]) rfl ⟨_, _, rfl, ?_, ?_⟩
  · refine Below.setCell (p := ⟨w.heap.size, 1, none⟩) (Below.setCell (p := ⟨w.heap.size, 0, none⟩) hb2 (Nat.le_refl _) _) (Nat.le_refl _) _
  · exact hS.set40 HR.out _ _

set_option maxHeartbeats 400000 in
theorem cols_any (F : Nat) (w : World) (h : w.heap[F]? = some colsObj) :
    Calls Try.prog 19 #[.slice (some ⟨F, 0, none⟩) 5 5] w fun e w' => e = .returned (.bool true) ∧ w' = w := by
  have c0 := cell_of_heap h 0 rfl
  have c1 := cell_of_heap h 1 rfl
  have c2 := cell_of_heap h 2 rfl
  have c3 := cell_of_heap h 3 rfl
  have c4 := cell_of_heap h 4 rfl
  go_enter Try.func19, Try.ntmps19
  go_wp2
  go_ret
  exact ⟨rfl, rfl⟩

end Go.Proofs.Qxb6613399a.Show
