/- replicaRows: THE ROWS OF SHOW REPLICAS. -/
import Derived.Test.Qxb6613399aRegs
import Derived.Conc.MuLone
import Derived.Deep.RegionHeld3
import Derived.Deep.DrawnRows
import Derived.Deep.DeepCutAuto
import Derived.Carry
import Derived.WideMake
namespace Go.Proofs.Qxb6613399a.Show
open Go.RowKit Go.Deep Go.WideShapes Go.MuLone Go.Proofs.Qxb6613399a.Base
set_option linter.unusedVariables false
set_option maxRecDepth 100000

def kBehind : ByteArray := ⟨#[98, 101, 104, 105, 110, 100]⟩
def kStatus : ByteArray := ⟨#[115, 116, 97, 116, 117, 115]⟩
def kTs : ByteArray := ⟨#[116, 115]⟩
def kDb : ByteArray := ⟨#[109, 101, 109, 103, 114, 97, 112, 104]⟩

/-- The row of the replica's data, whatever order its three entries were laid in. -/
structure InfoMap (es : Array MapEntry) (behind : Int) (status : ByteArray) (ts : Int) : Prop where
  size : es.size = 3
  beh : ∃ i, Instr.findNow .string (.string kBehind) es.toList 0 = some (some (i, .iface 2 (.int .i64 behind)))
  sta : ∃ i, Instr.findNow .string (.string kStatus) es.toList 0 = some (some (i, .iface 9 (.string status)))
  tsv : ∃ i, Instr.findNow .string (.string kTs) es.toList 0 = some (some (i, .iface 2 (.int .i64 ts)))

/-- One row, in memory. -/
def RowBlk (w : World) (q : Nat) (r : Rep) (nW : Int) : Prop :=
  ∃ (d e : Nat) (es : Array MapEntry) (c : Nat), w.heap[q]? = some (.cells #[.iface 9 (.string r.name), .iface 9 (.string r.address), .iface 9 (.string r.mode), .nilIface, .iface 97 (.map (some d))] 20) ∧
    w.heap[d]? = some (.map #[⟨.string kDb, .iface 97 (.map (some e)), 0⟩] 1) ∧ w.heap[e]? = some (.map es c) ∧ InfoMap es (IntKind.i64.wrap (nW - r.ts)) r.status r.ts

theorem ins_run (w : World) (r clock : Nat) (es : Array MapEntry) (s : ByteArray) (v : Value) (hb : w.heap[r]? = some (.map es clock)) (hf : Instr.findNow .string (.string s) es.toList 0 = some none) :
    (Instr.mapUpdate 97 (.map (some r)) (.string s) v).run Try.prog w = .ok () { w with heap := w.heap.setIfInBounds r (.map (es.push { key := .string s, val := v, born := clock }) (clock + 1)) } := by
  have hk := Try.underlying9
  have hc : (Instr.checkKey false 10000 9 (.string s)).run Try.prog w = .ok () w := MapKept.run_checkKey (k := .string s) hk (by simp [MapKept.IsKey]) false 9999
  simp [Instr.mapUpdate, run_underlying Try.underlying97, MapKept.run_getObj_map hb, hc, MapKept.run_findKey hk hf, MapKept.run_setObj_map _ hb, Result.andThen]

theorem set_push (a : Array Obj) (o o' : Obj) : (a.push o).setIfInBounds a.size o' = a.push o' := by
  apply Array.ext_getElem?
  intro i
  rw [Array.getElem?_setIfInBounds, Array.getElem?_push, Array.getElem?_push]
  by_cases h : a.size = i
  · subst h; simp
  · rw [if_neg h, if_neg (fun e => h e.symm), if_neg (fun e => h e.symm)]

theorem set_new (w : World) (o o' : Obj) : ({ (w.alloc o).drew with heap := (w.alloc o).drew.heap.setIfInBounds w.heap.size o' } : World) = (w.alloc o').drew := by
  have h : (w.alloc o).drew.heap.setIfInBounds w.heap.size o' = (w.alloc o').drew.heap := set_push w.heap o o'
  rw [h]; rfl

theorem ins_new (w : World) (clock : Nat) (es : Array MapEntry) (s : ByteArray) (v : Value) (hf : Instr.findNow .string (.string s) es.toList 0 = some none) :
    (Instr.mapUpdate 97 (.map (some w.heap.size)) (.string s) v).run Try.prog (w.alloc (.map es clock)).drew = .ok () (w.alloc (.map (es.push { key := .string s, val := v, born := clock }) (clock + 1))).drew := by
  have hb : (w.alloc (.map es clock)).drew.heap[w.heap.size]? = some (.map es clock) := heap_alloc_new w _
  rw [ins_run _ _ clock es s v hb hf, set_new]

theorem ins0 (w : World) (s : ByteArray) (v : Value) :
    (Instr.mapUpdate 97 (.map (some w.heap.size)) (.string s) v).run Try.prog (w.alloc (.map #[] 0)).drew = .ok () (w.alloc (.map #[⟨.string s, v, 0⟩] 1)).drew := ins_new w 0 #[] s v rfl
theorem ins1 (w : World) (s s1 : ByteArray) (v v1 : Value) (h : (s == s1) = false) :
    (Instr.mapUpdate 97 (.map (some w.heap.size)) (.string s) v).run Try.prog (w.alloc (.map #[⟨.string s1, v1, 0⟩] 1)).drew = .ok () (w.alloc (.map #[⟨.string s1, v1, 0⟩, ⟨.string s, v, 1⟩] 2)).drew := ins_new w 1 #[_] s v (by simp [Instr.findNow, Instr.sameNow, h])
theorem ins2 (w : World) (s s1 s2 : ByteArray) (v v1 v2 : Value) (h : (s == s1) = false) (h2 : (s == s2) = false) :
    (Instr.mapUpdate 97 (.map (some w.heap.size)) (.string s) v).run Try.prog (w.alloc (.map #[⟨.string s1, v1, 0⟩, ⟨.string s2, v2, 1⟩] 2)).drew = .ok () (w.alloc (.map #[⟨.string s1, v1, 0⟩, ⟨.string s2, v2, 1⟩, ⟨.string s, v, 2⟩] 3)).drew := ins_new w 2 #[_, _] s v (by simp [Instr.findNow, Instr.sameNow, h, h2])

theorem n1 : ((⟨#[98, 101, 104, 105, 110, 100]⟩ : ByteArray) == ⟨#[115, 116, 97, 116, 117, 115]⟩) = false := by decide +kernel
theorem n2 : ((⟨#[98, 101, 104, 105, 110, 100]⟩ : ByteArray) == ⟨#[116, 115]⟩) = false := by decide +kernel
theorem n3 : ((⟨#[115, 116, 97, 116, 117, 115]⟩ : ByteArray) == ⟨#[98, 101, 104, 105, 110, 100]⟩) = false := by decide +kernel
theorem n4 : ((⟨#[115, 116, 97, 116, 117, 115]⟩ : ByteArray) == ⟨#[116, 115]⟩) = false := by decide +kernel
theorem n5 : ((⟨#[116, 115]⟩ : ByteArray) == ⟨#[98, 101, 104, 105, 110, 100]⟩) = false := by decide +kernel
theorem n6 : ((⟨#[116, 115]⟩ : ByteArray) == ⟨#[115, 116, 97, 116, 117, 115]⟩) = false := by decide +kernel

theorem infoBST (x : Int) (y : ByteArray) (z : Int) : InfoMap #[⟨.string ⟨#[98, 101, 104, 105, 110, 100]⟩, .iface 2 (.int .i64 x), 0⟩, ⟨.string ⟨#[115, 116, 97, 116, 117, 115]⟩, .iface 9 (.string y), 1⟩, ⟨.string ⟨#[116, 115]⟩, .iface 2 (.int .i64 z), 2⟩] x y z :=
  ⟨rfl, ⟨0, by kernel_rfl⟩, ⟨1, by kernel_rfl⟩, ⟨2, by kernel_rfl⟩⟩
theorem infoBTS (x : Int) (y : ByteArray) (z : Int) : InfoMap #[⟨.string ⟨#[98, 101, 104, 105, 110, 100]⟩, .iface 2 (.int .i64 x), 0⟩, ⟨.string ⟨#[116, 115]⟩, .iface 2 (.int .i64 z), 1⟩, ⟨.string ⟨#[115, 116, 97, 116, 117, 115]⟩, .iface 9 (.string y), 2⟩] x y z :=
  ⟨rfl, ⟨0, by kernel_rfl⟩, ⟨2, by kernel_rfl⟩, ⟨1, by kernel_rfl⟩⟩
theorem infoSBT (x : Int) (y : ByteArray) (z : Int) : InfoMap #[⟨.string ⟨#[115, 116, 97, 116, 117, 115]⟩, .iface 9 (.string y), 0⟩, ⟨.string ⟨#[98, 101, 104, 105, 110, 100]⟩, .iface 2 (.int .i64 x), 1⟩, ⟨.string ⟨#[116, 115]⟩, .iface 2 (.int .i64 z), 2⟩] x y z :=
  ⟨rfl, ⟨1, by kernel_rfl⟩, ⟨0, by kernel_rfl⟩, ⟨2, by kernel_rfl⟩⟩
theorem infoSTB (x : Int) (y : ByteArray) (z : Int) : InfoMap #[⟨.string ⟨#[115, 116, 97, 116, 117, 115]⟩, .iface 9 (.string y), 0⟩, ⟨.string ⟨#[116, 115]⟩, .iface 2 (.int .i64 z), 1⟩, ⟨.string ⟨#[98, 101, 104, 105, 110, 100]⟩, .iface 2 (.int .i64 x), 2⟩] x y z :=
  ⟨rfl, ⟨2, by kernel_rfl⟩, ⟨0, by kernel_rfl⟩, ⟨1, by kernel_rfl⟩⟩
theorem infoTBS (x : Int) (y : ByteArray) (z : Int) : InfoMap #[⟨.string ⟨#[116, 115]⟩, .iface 2 (.int .i64 z), 0⟩, ⟨.string ⟨#[98, 101, 104, 105, 110, 100]⟩, .iface 2 (.int .i64 x), 1⟩, ⟨.string ⟨#[115, 116, 97, 116, 117, 115]⟩, .iface 9 (.string y), 2⟩] x y z :=
  ⟨rfl, ⟨1, by kernel_rfl⟩, ⟨2, by kernel_rfl⟩, ⟨0, by kernel_rfl⟩⟩
theorem infoTSB (x : Int) (y : ByteArray) (z : Int) : InfoMap #[⟨.string ⟨#[116, 115]⟩, .iface 2 (.int .i64 z), 0⟩, ⟨.string ⟨#[115, 116, 97, 116, 117, 115]⟩, .iface 9 (.string y), 1⟩, ⟨.string ⟨#[98, 101, 104, 105, 110, 100]⟩, .iface 2 (.int .i64 x), 2⟩] x y z :=
  ⟨rfl, ⟨2, by kernel_rfl⟩, ⟨1, by kernel_rfl⟩, ⟨0, by kernel_rfl⟩⟩

theorem info89 : (Try.prog.info? 89).map (fun i => (i.zero, i.size, i.bytes)) = some (some (.slice none 0 0), 1, 24) := by kernel_rfl

theorem heap_lock {w : World} {m : Nat} {l l' : Int} {wv v : Value} (h : w.heap[m]? = some (memObj l wv v)) : (w.setCell ⟨m, 5, none⟩ (.int .i32 l')).heap[m]? = some (memObj l' wv v) := by
  simp only [World.setCell, Array.getElem?_modify, if_pos, h, memObj]
  rfl

/-- A block that no row of SHOW REPLICAS lies in. -/
def turns : Obj → Bool
  | .cells _ t _ => t == 76 || t == 77 || t == 89 || t == 40
  | _ => false

theorem RowBlk.mono {w w' : World} {q : Nat} {r : Rep} {nW : Int} (h : RowBlk w q r nW) (hk : ∀ (j : Nat) (o : Obj), w.heap[j]? = some o → turns o = false → w'.heap[j]? = some o) : RowBlk w' q r nW := by
  obtain ⟨d, e, es, c, h1, h2, h3, h4⟩ := h
  exact ⟨d, e, es, c, hk _ _ h1 rfl, hk _ _ h2 rfl, hk _ _ h3 rfl, h4⟩

theorem RowBlk.below {w w' : World} {q : Nat} {r : Rep} {nW : Int} (h : RowBlk w q r nW) (hb : Below w.heap.size w w') : RowBlk w' q r nW :=
  h.mono fun j o hj _ => (hb.block j (lt_of_some hj)).trans hj

theorem RowBlk.kept {w w' : World} {q : Nat} {r : Rep} {nW : Int} (h : RowBlk w q r nW) (hb : Kept w w') : RowBlk w' q r nW :=
  h.mono fun j o hj ho => hb j o hj (by
    cases o <;> simp_all [turns, mine])

theorem heap_rowIs {w : World} {b t n : Nat} {f : Nat → Value} (h : w.rowIs b t n f) : ∃ cs, w.heap[b]? = some (.cells cs t) := by
  obtain ⟨c, hc, _⟩ := h
  exact ⟨c, hc⟩

/-- ONE ROW MORE. -/
theorem row_step {w1 wr wc : World} {S n k c : Nat} {nW : Int} {q : Nat → Nat} {R : Nat → Rep} {es : Array MapEntry} (hb : Below S w1 wr)
    (hrow : wr.rowIs S 89 n (fun i => if i < k then .slice (some ⟨q i, 0, none⟩) 5 5 else .slice none 0 0)) (hdone : ∀ i, i < k → RowBlk wr (q i) (R i) nW)
    (hsz : wc.heap.size = wr.heap.size + 1) (hbc : Below wr.heap.size wr wc) (hes : wc.heap[wr.heap.size]? = some (.map es c)) (hinf : InfoMap es (IntKind.i64.wrap (nW - (R k).ts)) (R k).status (R k).ts) :
    let W := (((wc.alloc (.map #[⟨.string kDb, .iface 97 (.map (some wr.heap.size)), 0⟩] 1)).alloc (.cells #[.iface 9 (.string (R k).name), .iface 9 (.string (R k).address), .iface 9 (.string (R k).mode), .nilIface, .iface 97 (.map (some wc.heap.size))] 20)).setCell ⟨S, k, none⟩ (.slice (some ⟨wc.heap.size + 1, 0, none⟩) 5 5)).drew
    Below S w1 W ∧ W.rowIs S 89 n (fun i => if i < k + 1 then .slice (some ⟨if i < k then q i else wc.heap.size + 1, 0, none⟩) 5 5 else .slice none 0 0) ∧ ∀ i, i < k + 1 → RowBlk W (if i < k then q i else wc.heap.size + 1) (R i) nW := by
  intro W
  have hS : S < wr.heap.size := hrow.lt
  have hrowc : wc.rowIs S 89 n _ := hrow.of_block (hbc.block _ hS)
  have hold : ∀ (j : Nat) (o : Obj), wc.heap[j]? = some o → turns o = false → W.heap[j]? = some o := by
    intro j o hj ho
    have hjS : j ≠ S := fun e => by
      subst e
      obtain ⟨cs, hcs⟩ := heap_rowIs hrowc
      rw [hcs] at hj; injection hj with hj; subst hj; simp [turns] at ho
    show (World.setCell _ _ _).heap[j]? = _
    rw [Below.heap_setCell _ _ _ _ hjS, Below.heap_alloc _ _ _ (by have := lt_of_some hj; simp; omega), Below.heap_alloc _ _ _ (lt_of_some hj)]
    exact hj
  refine ⟨?_, ?_, ?_⟩
  · refine ((Below.setCell (p := ⟨S, k, none⟩) (((hb.trans (hbc.mono (by omega))).alloc (by omega) _).alloc (by simp; omega) _) (Nat.le_refl _) _)).drew
  · refine ((((hrowc.alloc _).alloc _).set k _).congr fun i _ => ?_).drew
    by_cases e : i = k
    · subst e; rw [if_pos rfl, if_pos (by omega), if_neg (by omega)]
    · rw [if_neg e]
      by_cases h2 : i < k
      · rw [if_pos h2, if_pos (by omega), if_pos h2]
      · rw [if_neg h2, if_neg (by omega)]
  · intro i hi
    by_cases h2 : i < k
    · rw [if_pos h2]
      exact ((hdone i h2).below hbc).mono hold
    · have e : i = k := by omega
      subst e
      rw [if_neg h2]
      refine ⟨wc.heap.size, wr.heap.size, es, c, ?_, ?_, hold _ _ hes rfl, hinf⟩
      · show (World.setCell _ _ _).heap[wc.heap.size + 1]? = _
        rw [Below.heap_setCell _ _ _ _ (by show _ ≠ S; omega)]
        exact new_two _ _ _
      · show (World.setCell _ _ _).heap[wc.heap.size]? = _
        rw [Below.heap_setCell _ _ _ _ (by show _ ≠ S; omega), Below.heap_alloc _ _ _ (by simp)]
        exact heap_alloc_new _ _

/-- THE LOCK GIVEN BACK: nothing that was there has turned. -/
theorem below_unlock {w w1 wr : World} {m : Nat} {wv v : Value} (hm : w.heap[m]? = some (memObj 0 wv v)) (hw1 : w1 = w.setCell ⟨m, 5, none⟩ (.int .i32 1)) (hb : Below w.heap.size w1 wr) :
    Below w.heap.size w (wr.setCell ⟨m, 5, none⟩ (.int .i32 0)) := by
  have hs1 : w1.heap.size = w.heap.size := by rw [hw1]; simp [World.setCell]
  have hm1 : w1.heap[m]? = some (memObj 1 wv v) := by rw [hw1]; exact heap_lock hm
  refine ⟨?_, ?_, ?_, ?_, ?_⟩
  · show wr.os = _; rw [hb.os, hw1]; rfl
  · show wr.tape = _; rw [hb.tape, hw1]; rfl
  · show wr.output = _; rw [hb.output, hw1]; rfl
  · have := hb.size; simp [World.setCell]; omega
  · intro j hj
    by_cases e : j = m
    · subst e
      rw [heap_lock (l := 1) ((hb.block j hj).trans hm1), hm]
    · rw [Below.heap_setCell _ _ _ _ e, hb.block j hj, hw1, Below.heap_setCell _ _ _ _ e]

set_option maxHeartbeats 1000000 in
theorem rows_any (B m n nW : Nat) (wa : Option Addr) (wc : Nat) (v : Value) (ps : Nat → Nat) (R : Nat → Rep) (w : World) (h : Regs B w m (.slice wa nW wc) v n ps R) (hn : n ≤ 65537) (hW : nW ≤ 65536) :
    Calls Try.prog 27 #[.pointer (some ⟨m, 0, none⟩)] w fun e w' =>
      e = .returned (.tuple #[.slice (some ⟨w.heap.size, 0, none⟩) n n, .nilIface]) ∧ Below w.heap.size w w' ∧
      ∃ q : Nat → Nat, w'.rowIs w.heap.size 89 n (fun i => .slice (some ⟨q i, 0, none⟩) 5 5) ∧ ∀ i, i < n → RowBlk w' (q i) (R i) nW := by
  have hm := h.mem
  have c5 := cell_of_heap hm 5 (u := .int .i32 0) rfl
  have f5 := frozen_of_heap hm 5
  have hm1 := heap_lock (l' := 1) hm
  have hml := lt_of_some hm
  obtain ⟨w1, hw1⟩ : ∃ w1, w1 = w.setCell ⟨m, 5, none⟩ (.int .i32 1) := ⟨_, rfl⟩
  have hs1 : w1.heap.size = w.heap.size := by rw [hw1]; simp [World.setCell]
  have c9 : w1.cell? ⟨m, 9, none⟩ = some (.string mainStr) := by rw [hw1]; exact cell_of_heap hm1 9 rfl
  have c12 : w1.cell? ⟨m, 12, none⟩ = some (.slice wa nW wc) := by rw [hw1]; exact cell_of_heap hm1 12 rfl
  have c15 : w1.cell? ⟨m, 15, none⟩ = some v := by rw [hw1]; exact cell_of_heap hm1 15 rfl
  have hv : ∃ (g : Option Addr) (cap : Nat), v = .slice g n cap := by
    rcases h.own.2 with ⟨rfl, rfl⟩ | ⟨g, cap, cur, rfl, _⟩
    · exact ⟨_, _, rfl⟩
    · exact ⟨_, _, rfl⟩
  obtain ⟨g, cap, rfl⟩ := hv
  have hmk := run_make_row' (P := Try.prog) 38 89 (.slice none 0 0) 24 Try.underlying38 info89 rfl .i64 .i64 n (by omega) (by omega)
  have HW1 : Hid (w1 = w.setCell ⟨m, 5, none⟩ (.int .i32 1)) := hw1
  have hne : (!mainStr.toList == [109, 97, 105, 110]) = false := by decide +kernel
  have hptr : ∀ k, k < n → ∃ gb, g = some ⟨gb, 0, none⟩ ∧ gb < w.heap.size ∧ w1.cell? ⟨gb, k, none⟩ = some (.pointer (some ⟨ps k, 0, none⟩)) := by
    intro k hk
    rcases h.own.2 with ⟨hg, hn0⟩ | ⟨gb, cap', cur, hg, hB, hh, hcap, hmax, hcs, hcur⟩
    · omega
    · simp only [Value.slice.injEq] at hg
      obtain ⟨rfl, -, rfl⟩ := hg
      have hne : gb ≠ m := fun e => own_ne h.own hm (by decide) (by rw [← e]; rfl)
      refine ⟨gb, rfl, lt_of_some hh, ?_⟩
      rw [hw1, World.cell?_of_block (w := w) (Below.heap_setCell _ _ _ _ hne)]
      refine cell_of_heap hh k ?_
      have e1 : (cur.toList.take (n * 1))[k]? = some (.pointer (some ⟨ps k, 0, none⟩)) := by rw [hcur]; simp [hk]
      rw [List.getElem?_take_of_lt (by omega)] at e1
      simpa using e1
  have hrep : ∀ k, k < n → ps k < w.heap.size ∧ w1.heap[ps k]? = some (R k).obj := by
    intro k hk
    refine ⟨lt_of_some (h.rep k hk), ?_⟩
    have hne : ps k ≠ m := fun e => by
      have := h.rep k hk; rw [e, hm] at this; injection this with this; simp [memObj, Rep.obj] at this
    rw [hw1, Below.heap_setCell _ _ _ _ hne]
    exact h.rep k hk
  have hmm := @run_makeMap Try.prog
  have HM : Hid (w.heap[m]? = some (memObj 0 (.slice wa nW wc) (.slice g n cap))) := hm
  have c51 : w1.cell? ⟨m, 5, none⟩ = some (.int .i32 1) := by rw [hw1]; exact cell_of_heap hm1 5 rfl
  have f51 : w1.frozen? ⟨m, 5, none⟩ = false := by rw [hw1]; exact frozen_of_heap hm1 5
  have HM1 : Hid (w1.heap[m]? = some (memObj 1 (.slice wa nW wc) (.slice g n cap))) := by rw [hw1]; exact hm1
  clear h hm hm1 hw1
  go_enter_defers Try.func27, Try.ntmps27
  go_wp2_with (go_at_call 28; refine (lock_free Try.muLib ⟨m, 5, none⟩ _ c5 f5).mono ?_; rintro e w' ⟨rfl, rfl⟩; rw [← HW1.out])
  clear hmk
  go_loopg [32] n (fun gh i wr => ∃ (k : Nat) (q : Nat → Nat), k ≤ n ∧ gh = n - k ∧ i = .int .i64 k ∧ Below w.heap.size w1 wr ∧ wr.rowIs w.heap.size 89 n (fun i => if i < k then .slice (some ⟨q i, 0, none⟩) 5 5 else .slice none 0 0) ∧ ∀ i, i < k → RowBlk wr (q i) (R i) nW)
  case atStart => exact ⟨0, fun _ => 0, Nat.zero_le _, rfl, rfl, (Below.refl _ _).alloc (by omega) _, by rw [← hs1]; exact (World.rowIs_made w1 _ n 89).congr (fun j _ => by simp), fun i hi => absurd hi (Nat.not_lt_zero _)⟩
  case round =>
    obtain ⟨k, q, hk, rfl, rfl, hb, hrow, hdone⟩ := hrel
    by_cases hlt : k < n
    · obtain ⟨gb, hg, hgl, hcp⟩ := hptr k hlt
      obtain ⟨hpl, hrk⟩ := hrep k hlt
      have g1 : wr.cell? ⟨gb, k, none⟩ = some (.pointer (some ⟨ps k, 0, none⟩)) := by rw [hb.cell (p := ⟨gb, k, none⟩) hgl]; exact hcp
      have hwr : wr.heap[ps k]? = some (R k).obj := (hb.block _ hpl).trans hrk
      have r3 := cell_of_heap hwr 3 (u := .string (R k).status) rfl
      have r4 := cell_of_heap hwr 4 (u := .int .i64 (R k).ts) rfl
      have m12 : wr.cell? ⟨m, 12, none⟩ = some (.slice wa nW wc) := by rw [hb.cell (p := ⟨m, 12, none⟩) hml]; exact c12
      rw [hg]
      clear hrk c9 c12 c15 hcp hptr hrep
      go_wp2_with fail
      go_cut [7] from 33 to 87 (fun x wc => x = .map (some wr.heap.size) ∧ wc.heap.size = wr.heap.size + 1 ∧ Below wr.heap.size wr wc ∧ ∃ (es : Array MapEntry) (c : Nat), wc.heap[wr.heap.size]? = some (.map es c) ∧ InfoMap es (IntKind.i64.wrap ((nW : Int) - (R k).ts)) (R k).status (R k).ts)
      case first =>
        have i0 := ins0
        have i1 := ins1
        have i2 := ins2
        have n1 := n1
        have n2 := n2
        have n3 := n3
        have n4 := n4
        have n5 := n5
        have n6 := n6
        go_region_held3 (fun w' => w'.cell? ⟨m, 12, none⟩ = some (.slice wa nW wc) ∧ w'.cell? ⟨ps k, 3, none⟩ = some (.string (R k).status) ∧ w'.cell? ⟨ps k, 4, none⟩ = some (.int .i64 (R k).ts)) (go_keep) (fail)
        all_goals (go_wp2_with fail; go_meet)
        case rel => exact ⟨rfl, by simp, ((Below.refl _ _).alloc (Nat.le_refl _) _).drew, _, _, heap_alloc_new wr _, infoBST _ _ _⟩
        case rel => exact ⟨rfl, by simp, ((Below.refl _ _).alloc (Nat.le_refl _) _).drew, _, _, heap_alloc_new wr _, infoBTS _ _ _⟩
        case rel => exact ⟨rfl, by simp, ((Below.refl _ _).alloc (Nat.le_refl _) _).drew, _, _, heap_alloc_new wr _, infoSBT _ _ _⟩
        case rel => exact ⟨rfl, by simp, ((Below.refl _ _).alloc (Nat.le_refl _) _).drew, _, _, heap_alloc_new wr _, infoSTB _ _ _⟩
        case rel => exact ⟨rfl, by simp, ((Below.refl _ _).alloc (Nat.le_refl _) _).drew, _, _, heap_alloc_new wr _, infoTBS _ _ _⟩
        case rel => exact ⟨rfl, by simp, ((Below.refl _ _).alloc (Nat.le_refl _) _).drew, _, _, heap_alloc_new wr _, infoTSB _ _ _⟩
      case rest =>
        obtain ⟨rfl, hsz, hbc, es, c, hes, hinf⟩ := hcut
        clear r3 r4 m12 g1
        have hwl : w.heap.size < wr.heap.size := hrow.lt
        have hwc : wc.heap[ps k]? = some (R k).obj := (hbc.block _ (by omega)).trans hwr
        have r0 := cell_of_heap hwc 0 (u := .string (R k).name) rfl
        have r1 := cell_of_heap hwc 1 (u := .string (R k).address) rfl
        have r2 := cell_of_heap hwc 2 (u := .string (R k).mode) rfl
        have hrowc : wc.rowIs w.heap.size 89 n _ := hrow.of_block (hbc.block _ hwl)
        have s0 := hrowc.cell hlt
        rw [if_neg (Nat.lt_irrefl k)] at s0
        have s1 := hrowc.frozen k
        have i0 := ins0
        have s2 : ∀ o o', ((wc.alloc o).alloc o').frozen? ⟨w.heap.size, k, none⟩ = false := fun o o' => ((hrowc.alloc o).alloc o').frozen k
        have s3 : ∀ o o', ((wc.alloc o).alloc o').cell? ⟨w.heap.size, k, none⟩ = some (.slice none 0 0) := fun o o' => by
          have := ((hrowc.alloc o).alloc o').cell hlt
          rwa [if_neg (Nat.lt_irrefl k)] at this
        have HSZ : Hid (wc.heap.size = wr.heap.size + 1) := hsz
        have hpn : ps k ≠ w.heap.size := by omega
        have hpn' : w.heap.size ≠ ps k := by omega
        clear hwc hwr hrowc s0 s1 hsz
        go_wp2_with fail
        go_region_held3 (fun w' => w'.cell? ⟨ps k, 0, none⟩ = some (.string (R k).name) ∧ w'.cell? ⟨ps k, 1, none⟩ = some (.string (R k).address) ∧ w'.cell? ⟨ps k, 2, none⟩ = some (.string (R k).mode)) (go_keep) (fail)
        have fin := row_step hb hrow hdone HSZ.out hbc hes hinf
        go_wp2_with fail
        rw [← hg]
        go_roundg (n - (k + 1))
        case measure => omega
        case rel => exact ⟨k + 1, _, by omega, rfl, by go_num, fin⟩
    · have e : k = n := by omega
      subst e
      have c5r : wr.cell? ⟨m, 5, none⟩ = some (.int .i32 1) := by rw [hb.cell (p := ⟨m, 5, none⟩) hml]; exact c51
      have f5r : wr.frozen? ⟨m, 5, none⟩ = false := by rw [hb.frozen (p := ⟨m, 5, none⟩) hml]; exact f51
      have fin := below_unlock HM.out HW1.out hb
      clear c9 c12 c15 hptr hrep hmm c51 f51
      go_wp2_with fail
      refine leaves_cons (f := 29) (args := #[.pointer (some ⟨m, 5, none⟩)]) (by simp) (by simp [go_sem]) ?_
      refine (unlock_deferred Try.muLib ⟨m, 5, none⟩ .returning _ c5r f5r).mono ?_
      rintro e u' w'' ⟨rfl, rfl, rfl⟩
      refine ⟨_, results_tmp2 rfl _ _ _, rfl, fin, q, ?_, ?_⟩
      · exact (hrow.congr fun i hi => by rw [if_pos hi]).setOther (by show _ ≠ m; omega) _
      · intro i hi
        refine (hdone i hi).mono fun j o hj ho => ?_
        have hjm : j ≠ m := fun e => by
          subst e
          have h0 : wr.heap[j]? = some (memObj 1 (.slice wa nW wc) (.slice g k cap)) := (hb.block j hml).trans HM1.out
          rw [h0] at hj; injection hj with hj; subst hj; simp [turns, memObj] at ho
        rw [Below.heap_setCell _ _ _ _ hjm]
        exact hj

end Go.Proofs.Qxb6613399a.Show
