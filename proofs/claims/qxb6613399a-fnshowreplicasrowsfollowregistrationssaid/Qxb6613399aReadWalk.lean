/- ZZtext, ZZisNil, ZZdataInfo, showsRow. -/
import Derived.Test.Qxb6613399aShowWalk
namespace Go.Proofs.Qxb6613399a.Show
open Go.RowKit Go.Deep Go.WideShapes Go.Proofs.Qxb6613399a.Base
set_option linter.unusedVariables false
set_option maxRecDepth 100000

theorem cell_al {w : World} {a : Addr} {v : Value} (h : w.cell? a = some v) (o : Obj) : (w.alloc o).cell? a = some v := by
  rw [Below.cell ((Below.refl w.heap.size w).alloc (Nat.le_refl _) o) (World.block_lt_of_cell? _ _ h)]; exact h

theorem ta9 (s : ByteArray) (w : World) : (Instr.typeAssert (.iface 9 (.string s)) 20 9 true).run Try.prog w = .ok (.tuple #[.string s, .bool true]) w := by kernel_rfl
theorem ta2 (s : Int) (w : World) : (Instr.typeAssert (.iface 2 (.int .i64 s)) 20 2 true).run Try.prog w = .ok (.tuple #[.int .i64 s, .bool true]) w := by kernel_rfl
theorem ta97 (s : Option Nat) (w : World) : (Instr.typeAssert (.iface 97 (.map s)) 20 97 true).run Try.prog w = .ok (.tuple #[.map s, .bool true]) w := by kernel_rfl

set_option maxHeartbeats 400000 in
theorem text_any (F G n q i j : Nat) (s : ByteArray) (w : World) (hi : i < n) (h1 : w.cell? ⟨G, i, none⟩ = some (.slice (some ⟨q, 0, none⟩) 5 5)) (hj : j < 5) (h2 : w.cell? ⟨q, j, none⟩ = some (.iface 9 (.string s))) :
    Calls Try.prog 24 #[resAgg F G n, .int .i64 i, .int .i64 j] w fun e w' => e = .returned (.tuple #[.string s, .bool true]) ∧ Below w.heap.size w w' := by
  have h1' := cell_al h1
  have h2' := cell_al h2
  have hi' : (i : Int) < (n : Int) := by omega
  have hj' : (j : Int) < 5 := by omega
  have ta9 := ta9
  have ta2 := ta2
  have ta97 := ta97
  simp only [resAgg]
  go_enter Try.func24, Try.ntmps24
  go_wp2
  go_ret2
  exact ⟨rfl, (Below.refl _ _).alloc (Nat.le_refl _) _⟩

set_option maxHeartbeats 400000 in
theorem isNil_any (F G n q i : Nat) (w : World) (hi : i < n) (h1 : w.cell? ⟨G, i, none⟩ = some (.slice (some ⟨q, 0, none⟩) 5 5)) (h2 : w.cell? ⟨q, 3, none⟩ = some .nilIface) :
    Calls Try.prog 25 #[resAgg F G n, .int .i64 i, .int .i64 3] w fun e w' => e = .returned (.bool true) ∧ Below w.heap.size w w' := by
  have h1' := cell_al h1
  have h2' := cell_al h2
  have hi' : (i : Int) < (n : Int) := by omega
  have ta9 := ta9
  have ta2 := ta2
  have ta97 := ta97
  simp only [resAgg]
  go_enter Try.func25, Try.ntmps25
  go_wp2
  go_ret
  exact ⟨rfl, (Below.refl _ _).alloc (Nat.le_refl _) _⟩

theorem look_run (w : World) (r clock j : Nat) (es : Array MapEntry) (s : ByteArray) (v : Value) (hb : w.heap[r]? = some (.map es clock)) (hf : Instr.findNow .string (.string s) es.toList 0 = some (some (j, v))) :
    (Instr.lookup 97 (.map (some r)) (.string s) false).run Try.prog w = .ok v w := by
  have hk := Try.underlying9
  have hc : (Instr.checkKey es.isEmpty 10000 9 (.string s)).run Try.prog w = .ok () w := MapKept.run_checkKey (k := .string s) hk (by simp [MapKept.IsKey]) _ 9999
  simp [Instr.lookup, run_underlying Try.underlying97, MapKept.run_getObj_map hb, hc, MapKept.run_findKey hk hf, Result.andThen]

def InfoPost (w : World) (behind : Int) (status : ByteArray) (ts : Int) (e : Ending) (w' : World) : Prop :=
  e = .returned (.tuple #[.int .i64 1, .int .i64 3, .string status, .int .i64 ts, .int .i64 behind, .bool true]) ∧ Below w.heap.size w w'

set_option maxHeartbeats 400000 in
theorem info_any (F G n q i d r c : Nat) (es : Array MapEntry) (behind : Int) (status : ByteArray) (ts : Int) (w : World) (hi : i < n) (h1 : w.cell? ⟨G, i, none⟩ = some (.slice (some ⟨q, 0, none⟩) 5 5)) (h2 : w.cell? ⟨q, 4, none⟩ = some (.iface 97 (.map (some d))))
    (hd : w.heap[d]? = some (.map #[⟨.string kDb, .iface 97 (.map (some r)), 0⟩] 1)) (hr : w.heap[r]? = some (.map es c)) (hinf : InfoMap es behind status ts) :
    Calls Try.prog 26 #[resAgg F G n, .int .i64 i, .string kDb] w fun e w' => InfoPost w behind status ts e w' := by
  have h1' := cell_al h1
  have h2' := cell_al h2
  have hi' : (i : Int) < (n : Int) := by omega
  have hd' : ∀ o, (w.alloc o).heap[d]? = _ := fun o => (Below.heap_alloc _ _ _ (lt_of_some hd)).trans hd
  have hr' : ∀ o, (w.alloc o).heap[r]? = _ := fun o => (Below.heap_alloc _ _ _ (lt_of_some hr)).trans hr
  have l0 : ∀ o, (Instr.lookup 97 (.map (some d)) (.string kDb) false).run Try.prog (w.alloc o) = .ok (.iface 97 (.map (some r))) (w.alloc o) := fun o => look_run _ _ _ 0 _ _ _ (hd' o) (by kernel_rfl)
  obtain ⟨hs, ⟨i1, e1⟩, ⟨i2, e2⟩, ⟨i3, e3⟩⟩ := hinf
  have l1 : ∀ o, (Instr.lookup 97 (.map (some r)) (.string ⟨#[98, 101, 104, 105, 110, 100]⟩) false).run Try.prog (w.alloc o) = .ok _ (w.alloc o) := fun o => look_run _ _ _ _ _ _ _ (hr' o) e1
  have l2 : ∀ o, (Instr.lookup 97 (.map (some r)) (.string ⟨#[115, 116, 97, 116, 117, 115]⟩) false).run Try.prog (w.alloc o) = .ok _ (w.alloc o) := fun o => look_run _ _ _ _ _ _ _ (hr' o) e2
  have l3 : ∀ o, (Instr.lookup 97 (.map (some r)) (.string ⟨#[116, 115]⟩) false).run Try.prog (w.alloc o) = .ok _ (w.alloc o) := fun o => look_run _ _ _ _ _ _ _ (hr' o) e3
  have u97 : Try.prog.underlying 97 = some (.map (Try.prog.mapKeyOf 97) (Try.prog.mapElemOf 97)) := by kernel_rfl
  have k1 : ∀ o, (Builtin.len_ #[97] 3 #[.map (some d)]).run Try.prog (w.alloc o) = .ok (.int .i64 1) (w.alloc o) := fun o => by rw [run_len_map _ 97 3 d _ _ u97 (hd' o)]; rfl
  have k2 : ∀ o, (Builtin.len_ #[97] 3 #[.map (some r)]).run Try.prog (w.alloc o) = .ok (.int .i64 3) (w.alloc o) := fun o => by rw [run_len_map _ 97 3 r _ _ u97 (hr' o), hs]; rfl
  clear e1 e2 e3 hd hr h1 h2 u97 hd' hr' hs
  have ta9 := ta9
  have ta2 := ta2
  have ta97 := ta97
  simp only [resAgg]
  go_enter Try.func26, Try.ntmps26
  go_wp2
  exact bodyPost_ret (v := .tuple #[.int .i64 1, .int .i64 3, .string status, .int .i64 ts, .int .i64 behind, .bool true]) (by simp [results, Try.results26, go_sem]) rfl ⟨rfl, (Below.refl _ _).alloc (Nat.le_refl _) _⟩

/-- WHAT showsRow HAS IN SIGHT: the row, its two maps, and its own two boxes. -/
structure At (w : World) (S F G n i qi d r c : Nat) (es : Array MapEntry) (ri : Rep) : Prop where
  g0 : w.cell? ⟨G, i, none⟩ = some (.slice (some ⟨qi, 0, none⟩) 5 5)
  hq : w.heap[qi]? = some (.cells #[.iface 9 (.string ri.name), .iface 9 (.string ri.address), .iface 9 (.string ri.mode), .nilIface, .iface 97 (.map (some d))] 20)
  hd : w.heap[d]? = some (.map #[⟨.string kDb, .iface 97 (.map (some r)), 0⟩] 1)
  hr : w.heap[r]? = some (.map es c)
  bres : w.heap[S]? = some (.cells #[.slice (some ⟨F, 0, none⟩) 5 5, .slice (some ⟨G, 0, none⟩) n n] 40)
  bwant : w.heap[S + 1]? = some (.cells #[.string ri.name, .string ri.address, .string ri.mode, .string ri.status, .int .i64 ri.ts] 31)

theorem At.below {w w' : World} {S F G n i qi d r c : Nat} {es : Array MapEntry} {ri : Rep} (h : At w S F G n i qi d r c es ri) (hb : Below w.heap.size w w') : At w' S F G n i qi d r c es ri :=
  ⟨(hb.cell (p := ⟨G, i, none⟩) (World.block_lt_of_cell? _ _ h.g0)).trans h.g0, (hb.block _ (lt_of_some h.hq)).trans h.hq, (hb.block _ (lt_of_some h.hd)).trans h.hd, (hb.block _ (lt_of_some h.hr)).trans h.hr,
    (hb.block _ (lt_of_some h.bres)).trans h.bres, (hb.block _ (lt_of_some h.bwant)).trans h.bwant⟩

theorem At.q {w : World} {S F G n i qi d r c : Nat} {es : Array MapEntry} {ri : Rep} (h : At w S F G n i qi d r c es ri) :
    w.cell? ⟨qi, 0, none⟩ = some (.iface 9 (.string ri.name)) ∧ w.cell? ⟨qi, 1, none⟩ = some (.iface 9 (.string ri.address)) ∧ w.cell? ⟨qi, 2, none⟩ = some (.iface 9 (.string ri.mode)) ∧ w.cell? ⟨qi, 3, none⟩ = some .nilIface ∧ w.cell? ⟨qi, 4, none⟩ = some (.iface 97 (.map (some d))) :=
  ⟨cell_of_heap h.hq 0 rfl, cell_of_heap h.hq 1 rfl, cell_of_heap h.hq 2 rfl, cell_of_heap h.hq 3 rfl, cell_of_heap h.hq 4 rfl⟩

theorem At.b {w : World} {S F G n i qi d r c : Nat} {es : Array MapEntry} {ri : Rep} (h : At w S F G n i qi d r c es ri) :
    w.cell? ⟨S, 0, none⟩ = some (.slice (some ⟨F, 0, none⟩) 5 5) ∧ w.cell? ⟨S, 1, none⟩ = some (.slice (some ⟨G, 0, none⟩) n n) ∧
    w.cell? ⟨S + 1, 0, none⟩ = some (.string ri.name) ∧ w.cell? ⟨S + 1, 1, none⟩ = some (.string ri.address) ∧ w.cell? ⟨S + 1, 2, none⟩ = some (.string ri.mode) ∧ w.cell? ⟨S + 1, 3, none⟩ = some (.string ri.status) ∧ w.cell? ⟨S + 1, 4, none⟩ = some (.int .i64 ri.ts) :=
  ⟨cell_of_heap h.bres 0 rfl, cell_of_heap h.bres 1 rfl, cell_of_heap h.bwant 0 rfl, cell_of_heap h.bwant 1 rfl, cell_of_heap h.bwant 2 rfl, cell_of_heap h.bwant 3 rfl, cell_of_heap h.bwant 4 rfl⟩

set_option maxHeartbeats 1000000 in
theorem showsRow_any (F G n i nW : Nat) (R : Nat → Rep) (w : World) (hS : Shown w F G n R nW) (hi : i < n) :
    Calls Try.prog 20 #[resAgg F G n, .int .i64 i, (R i).agg, .int .i64 nW] w fun e w' => e = .returned (.bool true) ∧ Below w.heap.size w w' := by
  obtain ⟨-, q, hrow, hblk⟩ := hS
  obtain ⟨d, r, es, c, hq, hd, hr, hinf⟩ := hblk i hi
  have g0 := hrow.cell hi
  generalize q i = qi at *
  generalize R i = ri at *
  have hi' : (i : Int) < (n : Int) := by omega
  have A0 : At ((w.alloc (.cells #[.slice (some ⟨F, 0, none⟩) 5 5, .slice (some ⟨G, 0, none⟩) n n] 40)).alloc (.cells #[.string ri.name, .string ri.address, .string ri.mode, .string ri.status, .int .i64 ri.ts] 31)) w.heap.size F G n i qi d r c es ri :=
    ⟨cell_al (cell_al g0 _) _, (Below.heap_alloc _ _ _ (by have := lt_of_some hq; simp; omega)).trans ((Below.heap_alloc _ _ _ (lt_of_some hq)).trans hq), (Below.heap_alloc _ _ _ (by have := lt_of_some hd; simp; omega)).trans ((Below.heap_alloc _ _ _ (lt_of_some hd)).trans hd), (Below.heap_alloc _ _ _ (by have := lt_of_some hr; simp; omega)).trans ((Below.heap_alloc _ _ _ (lt_of_some hr)).trans hr),
      (Below.heap_alloc _ _ _ (by simp)).trans (heap_alloc_new _ _), new_two _ _ _⟩
  have B0 : Below w.heap.size w ((w.alloc (.cells #[.slice (some ⟨F, 0, none⟩) 5 5, .slice (some ⟨G, 0, none⟩) n n] 40)).alloc (.cells #[.string ri.name, .string ri.address, .string ri.mode, .string ri.status, .int .i64 ri.ts] 31)) := ((Below.refl _ _).alloc (Nat.le_refl _) _).alloc (by simp) _
  have gg := A0.g0
  clear hblk hrow hq hd hr g0
  simp only [resAgg, Rep.agg]
  go_enter Try.func20, Try.ntmps20
  go_wp2_with fail
  refine (text_any F G n qi i 0 ri.name _ hi A0.g0 (by omega) A0.q.1).mono ?_
  rintro e w1 ⟨rfl, hb1⟩
  have A1 := A0.below hb1
  have B1 := B0.trans (hb1.mono (by simp; omega))
  clear A0 B0 hb1 gg
  obtain ⟨t1, t2, -, -, -, -, -⟩ := A1.b
  go_wp2_with fail
  refine (text_any F G n qi i 1 ri.address _ hi A1.g0 (by omega) A1.q.2.1).mono ?_
  rintro e w2 ⟨rfl, hb1⟩
  have A2 := A1.below hb1
  have B2 := B1.trans (hb1.mono B1.size)
  clear A1 B1 hb1 t1 t2
  obtain ⟨t1, t2, -, -, -, -, -⟩ := A2.b
  go_wp2_with fail
  refine (text_any F G n qi i 2 ri.mode _ hi A2.g0 (by omega) A2.q.2.2.1).mono ?_
  rintro e w3 ⟨rfl, hb1⟩
  have A3 := A2.below hb1
  have B3 := B2.trans (hb1.mono B2.size)
  clear A2 B2 hb1 t1 t2
  obtain ⟨t1, t2, x0, x1, x2, -, -⟩ := A3.b
  go_wp2_with fail
  refine (isNil_any F G n qi i _ hi A3.g0 A3.q.2.2.2.1).mono ?_
  rintro e w4 ⟨rfl, hb1⟩
  have A4 := A3.below hb1
  have B4 := B3.trans (hb1.mono B3.size)
  clear A3 B3 hb1 t1 t2 x0 x1 x2
  obtain ⟨t1, t2, -, -, -, -, -⟩ := A4.b
  go_wp2_with fail
  refine (info_any F G n qi i d r c es _ _ _ _ hi A4.g0 A4.q.2.2.2.2 A4.hd A4.hr hinf).mono ?_
  rintro e w5 ⟨rfl, hb1⟩
  have A5 := A4.below hb1
  have B5 := B4.trans (hb1.mono B4.size)
  clear A4 B4 hb1 t1 t2
  obtain ⟨t1, t2, x0, x1, x2, x3, x4⟩ := A5.b
  go_wp2
  go_ret
  exact ⟨rfl, B5⟩

end Go.Proofs.Qxb6613399a.Show
