/- ZZIsQuorum; ZZNewReplica; the guards on lengths. -/
import Derived.Test.Qxb6613472aIsq
namespace Go.Proofs.Qxb6613472a.Cur
open Go Go.RowKit Go.Deep Go.WideShapes Go.Proofs.Qxb6613472a.Base Go.Proofs.Qxb6613472a.Plain
set_option linter.unusedVariables false
set_option maxRecDepth 100000

/-- A replica in memory, with its members. -/
structure Repl (w : World) (R G c cap : Nat) (A F : Nat → Int) (V : Nat → Value) (N : Nat → Nat) (f : Nat → Nat → Int) (arch size : Int) : Prop where
  cn : c ≤ 4
  cc : c ≤ cap
  c4 : cap ≤ 4
  c0 : 0 < c
  m : w.cell? ⟨R, 10, none⟩ = some (.slice (some ⟨G, 0, none⟩) c cap)
  a : w.cell? ⟨R, 3, none⟩ = some (.int .u64 arch)
  s : w.cell? ⟨R, 1, none⟩ = some (.int .i64 size)
  a0 : 0 ≤ arch
  a1 : arch ≤ 18446744073709551615
  mems : Mems w G c A F V
  mono : ∀ i j, i ≤ j → j < c → F i ≤ F j
  f1 : F 0 ≤ 1
  nodes : Nodes w c V N f

theorem Repl.below {w w' : World} {R G c cap : Nat} {A F : Nat → Int} {V : Nat → Value} {N : Nat → Nat} {f : Nat → Nat → Int} {arch size : Int} (h : Repl w R G c cap A F V N f arch size) (hb : Below w.heap.size w w') : Repl w' R G c cap A F V N f arch size :=
  ⟨h.cn, h.cc, h.c4, h.c0, (hb.cell (p := ⟨R, 10, none⟩) (World.block_lt_of_cell? _ _ h.m)).trans h.m, (hb.cell (p := ⟨R, 3, none⟩) (World.block_lt_of_cell? _ _ h.a)).trans h.a, (hb.cell (p := ⟨R, 1, none⟩) (World.block_lt_of_cell? _ _ h.s)).trans h.s, h.a0, h.a1, h.mems.below hb, h.mono, h.f1, h.nodes.below hb⟩


set_option maxHeartbeats 400000 in
theorem values_slice (a : Option Addr) (n c : Nat) (w : World) : Calls Try.prog 14 #[.slice a n c] w fun e w' => e = .returned (.func (.func 18) #[] #[.pointer (some ⟨w.heap.size, 0, none⟩)]) ∧ w' = w.alloc (.cells #[.slice a n c] 23) := by
  go_enter Try.func14, Try.ntmps14
  go_wp2
  go_ret
  exact ⟨rfl, rfl⟩

set_option maxHeartbeats 400000 in
theorem zzq_any (R G c cap : Nat) (A F : Nat → Int) (V : Nat → Value) (N : Nat → Nat) (f : Nat → Nat → Int) (arch size : Int) (len cb b' off' : Nat) (a' : Option Addr) (g : Nat → Int) (w : World) (h : Repl w R G c cap A F V N f arch size) (hl : len ≤ 1048576) (hg : Row w a' len b' off' g) :
    Calls Try.prog 9 #[.pointer (some ⟨R, 0, none⟩), .slice a' len cb] w fun e w' => IsqPost w c F (first arch) N f size (upto g len) e w' := by
  have hb : Below w.heap.size w (w.alloc (.cells #[.slice a' len cb] 23)) := (Below.refl _ _).alloc (Nat.le_refl _) _
  have h' := h.below hb
  have hg' := hg.below hb
  go_enter Try.func9, Try.ntmps9
  go_wp2_with fail
  refine (values_slice _ _ _ _).mono ?_
  rintro e w1 ⟨rfl, rfl⟩
  go_wp2_with fail
  refine (isq_any R G c cap A F V N f arch size w.heap.size len cb b' off' a' g _ h'.cn h'.cc h'.c4 h'.c0 h'.m h'.a h'.s h'.a0 h'.a1 h'.mems h'.mono h'.f1 h'.nodes hl (by simp) hg').mono ?_
  rintro e w2 ⟨⟨k, hk, hlo, hhi, y, rfl, hy⟩, hb2⟩
  go_wp2_with fail
  go_ret
  exact ⟨⟨k, hk, hlo, hhi, y, rfl, hy⟩, hb.trans (hb2.mono hb.size)⟩

/-- A new replica. -/
def NewPost (w : World) (size arch : Int) (m : Value) (e : Ending) (w' : World) : Prop :=
  ∃ R, e = .returned (.pointer (some ⟨R, 0, none⟩)) ∧ Below w.heap.size w w' ∧ w'.cell? ⟨R, 10, none⟩ = some m ∧ w'.cell? ⟨R, 3, none⟩ = some (.int .u64 arch) ∧ w'.cell? ⟨R, 1, none⟩ = some (.int .i64 size)

set_option maxHeartbeats 400000 in
theorem new_any (size arch : Int) (a : Option Addr) (n cp : Nat) (w : World) :
    Calls Try.prog 8 #[.int .u64 1, .int .i64 size, .int .u64 arch, .agg #[.int .u64 0, .int .u64 0], .agg #[.int .u64 0, .int .u64 0, .int .u64 0], .slice a n cp] w fun e w' => NewPost w size arch (.slice a n cp) e w' := by
  go_enter Try.func8, Try.ntmps8
  go_wp2_with fail
  go_ret
  exact ⟨w.heap.size + 1 + 1, rfl, (((Below.refl _ w).alloc (Nat.le_refl _) _).alloc (by simp) _).alloc (by simp; omega) _, by simp [go_sem], by simp [go_sem], by simp [go_sem]⟩

/-- Some answer, and nothing turned. -/
def SomeBool (w : World) (e : Ending) (w' : World) : Prop := (∃ y : Bool, e = .returned (.bool y)) ∧ w' = w

set_option maxHeartbeats 400000 in
theorem bytes5 (q : Int) (ar : Int) (a1 : Option Addr) (n1 c1 : Nat) (fr : Int) (a2 : Option Addr) (n2 c2 : Nat) (a3 : Option Addr) (n3 c3 : Nat) (w : World) :
    Calls Try.prog 5 #[.int .i64 q, .int .u64 ar, .slice a1 n1 c1, .int .u64 fr, .slice a2 n2 c2, .slice a3 n3 c3] w fun e w' => SomeBool w e w' := by
  go_enter Try.func5, Try.ntmps5
  go_wp2
  all_goals go_ret
  all_goals exact ⟨⟨_, rfl⟩, rfl⟩

set_option maxHeartbeats 400000 in
theorem bytes12 (q : Int) (a1 : Option Addr) (n1 c1 : Nat) (a2 : Option Addr) (n2 c2 : Nat) (cut : Int) (w : World) :
    Calls Try.prog 12 #[.int .i64 q, .slice a1 n1 c1, .slice a2 n2 c2, .int .i64 cut] w fun e w' => SomeBool w e w' := by
  go_enter Try.func12, Try.ntmps12
  go_wp2
  all_goals go_ret
  all_goals exact ⟨⟨_, rfl⟩, rfl⟩

end Go.Proofs.Qxb6613472a.Cur
