/- THE LEAVES OF FnShowReplicasRowsFollowRegistrations: lengths, the new member, a registration. -/
import Derived.Test.Qxb6613399aBase
import Derived.Test.Qxb6613399aLocks
import Derived.Deep.AppendLies
import Derived.WalkSmall
namespace Go.Proofs.Qxb6613399a.Show
open Go.RowKit Go.Deep Go.WideShapes Go.Proofs.Qxb6613399a.Base
set_option linter.unusedVariables false
set_option maxRecDepth 100000

/-- One replica as the law hands it in. -/
structure Rep where
  name : ByteArray
  address : ByteArray
  mode : ByteArray
  status : ByteArray
  ts : Int

/-- Its value (type 31). -/
def Rep.agg (r : Rep) : Value := .agg #[.string r.name, .string r.address, .string r.mode, .string r.status, .int .i64 r.ts]
/-- The block of the registered replica (type 85). -/
def Rep.obj (r : Rep) : Obj := .cells #[.string r.name, .string r.address, .string r.mode, .string r.status, .int .i64 r.ts, .nilIface, .pointer none, .bool false, .int .i32 0, .int .u32 0, .chan none, .chan none] 85
def mainStr : ByteArray := ⟨#[109, 97, 105, 110]⟩
/-- The member's block (type 76): l the mutex's word, v the replicas. -/
def memObj (l : Int) (wv : Value) (v : Value) : Obj := .cells #[.string ⟨#[]⟩, .int .i64 0, .int .i64 0, .int .i32 0, .int .u32 0, .int .i32 l, .int .u32 0, .pointer none, .nilIface, .string mainStr, .string ⟨#[]⟩, .int .i64 0, wv, .slice none 0 0, .pointer none, v, .nilIface, .map none, .int .u64 0, .int .u32 0] 76

def SomeInt (e : Ending) : Prop := ∃ t : Int, e = .returned (.int .i64 t)
def SomeBool (e : Ending) : Prop := ∃ b : Bool, e = .returned (.bool b)

set_option maxHeartbeats 400000 in
theorem addLen_any (t n : Int) (w : World) :
    Calls Try.prog 22 #[.int .i64 t, .int .i64 n] w fun e w' => SomeInt e ∧ w' = w := by
  by_cases h1 : (1048576 : Int) < t
  · go_enter Try.func22, Try.ntmps22
    go_wp2
    go_ret
    exact ⟨⟨_, rfl⟩, rfl⟩
  by_cases h2 : (1048576 : Int) < n
  · go_enter Try.func22, Try.ntmps22
    go_wp2
    go_ret
    exact ⟨⟨_, rfl⟩, rfl⟩
  go_enter Try.func22, Try.ntmps22
  go_wp2
  go_ret
  exact ⟨⟨_, rfl⟩, rfl⟩

set_option maxHeartbeats 400000 in
theorem repBytes_any (t : Int) (r : Rep) (w : World) :
    Calls Try.prog 15 #[.int .i64 t, r.agg] w fun e w' => SomeInt e ∧ Below w.heap.size w w' := by
  obtain ⟨a, b, c, d, ts⟩ := r
  simp only [Rep.agg]
  go_enter Try.func15, Try.ntmps15
  go_wp2_with (go_at_call 22; refine (addLen_any _ _ _).mono ?_; rintro e w' ⟨⟨t', rfl⟩, rfl⟩)
  go_ret
  exact ⟨⟨_, rfl⟩, (Below.refl _ _).alloc (Nat.le_refl _) _⟩

theorem new_two (w : World) (a b : Obj) : ((w.alloc a).alloc b).heap[w.heap.size + 1]? = some b := by
  have h := heap_alloc_new (w.alloc a) b
  rw [World.size_alloc] at h
  exact h

theorem info133 : (Try.prog.info? 133).map (fun i => (i.zero, i.size, i.bytes)) = some (some (.agg #[.string ⟨#[]⟩, .slice none 0 0]), 2, 40) := by kernel_rfl
theorem info77 : (Try.prog.info? 77).map (fun i => (i.zero, i.size, i.bytes)) = some (some (.pointer none), 1, 8) := by kernel_rfl

set_option maxHeartbeats 400000 in
theorem newMember_any (n : Nat) (hn : n ≤ 65536) (w : World) :
    Calls Try.prog 16 #[.string mainStr, .int .i64 n] w fun e w' => e = .returned (.pointer (some ⟨w.heap.size + 1, 0, none⟩)) ∧
      Below w.heap.size w w' ∧ w'.heap[w.heap.size + 1]? = some (memObj 0 (.slice (some ⟨w.heap.size, 0, none⟩) n n) (.slice none 0 0)) := by
  obtain ⟨i0, hi, hz0, hz1, hz2⟩ := info_parts info133
  have hmk := fun w => run_make (P := Try.prog) w 52 133 i0 _ Try.underlying52 hi hz0 .i64 .i64 n n (by omega) (Int.le_refl _) (by rw [hz2]; omega) (by omega)
  simp only [Int.toNat_natCast] at hmk
  go_enter Try.func16, Try.ntmps16
  go_wp2
  go_ret
  refine ⟨rfl, ?_, ?_⟩
  · exact ((Below.refl _ _).alloc (Nat.le_refl _) _).alloc (by simp) _
  · exact new_two _ _ _

/-- A block that a registration may turn: the member's, a row of pointers to replicas. -/
def mine : Obj → Bool
  | .cells _ t _ => t == 76 || t == 77
  | _ => false

/-- What a registration leaves as it was. -/
def Kept (w w' : World) : Prop := ∀ (k : Nat) (o : Obj), w.heap[k]? = some o → mine o = false → w'.heap[k]? = some o

theorem Kept.trans {a b c : World} (h : Kept a b) (g : Kept b c) : Kept a c := fun k o h1 h2 => g k o (h k o h1 h2) h2
theorem Kept.of_below {w w' : World} (h : Below w.heap.size w w') : Kept w w' := fun k o h1 _ => by
  rw [h.block k (by have := Array.getElem?_eq_some_iff.1 h1; exact this.1)]; exact h1

structure Regs (B : Nat) (w : World) (m : Nat) (wv v : Value) (n : Nat) (ps : Nat → Nat) (R : Nat → Rep) : Prop where
  low : B ≤ m
  mem : w.heap[m]? = some (memObj 0 wv v)
  own : w.ownsRow B 77 1 v n ((List.range n).map fun i => .pointer (some ⟨ps i, 0, none⟩))
  rep : ∀ i, i < n → w.heap[ps i]? = some (R i).obj

theorem lt_of_some {w : World} {k : Nat} {o : Obj} (h : w.heap[k]? = some o) : k < w.heap.size := (Array.getElem?_eq_some_iff.1 h).1

theorem ownsRow_block {w w' : World} {B e s : Nat} {v : Value} {n : Nat} {xs : List Value} (h : w.ownsRow B e s v n xs) (hb : ∀ k, v.ownBlock = some k → w'.heap[k]? = w.heap[k]?) : w'.ownsRow B e s v n xs := by
  obtain ⟨h1, h2⟩ := h
  refine ⟨h1, ?_⟩
  rcases h2 with h2 | ⟨g, cap, cur, rfl, hg, hh, r⟩
  · exact .inl h2
  · exact .inr ⟨g, cap, cur, rfl, hg, (hb g rfl).trans hh, r⟩

theorem own_tag {w : World} {B e s : Nat} {v : Value} {n : Nat} {xs : List Value} (h : w.ownsRow B e s v n xs) {k : Nat} (hk : v.ownBlock = some k) : ∃ cur, w.heap[k]? = some (.cells cur e) := by
  obtain ⟨h1, h2⟩ := h
  rcases h2 with ⟨rfl, _⟩ | ⟨g, cap, cur, rfl, hg, hh, r⟩
  · cases hk
  · cases hk; exact ⟨cur, hh⟩

theorem own_ne {w : World} {B s : Nat} {v : Value} {n : Nat} {xs : List Value} {t e : TypeId} {c : Array Value} {f : Nat × Nat} (h : w.ownsRow B e s v n xs) {k : Nat} (hk : w.heap[k]? = some (.cells c t f)) (ht : t ≠ e) : some k ≠ v.ownBlock := by
  intro he
  obtain ⟨cur, hc⟩ := own_tag h he.symm
  rw [hk] at hc
  injection hc with hc
  injection hc with _ h2 _
  exact ht h2

theorem Regs.below {B : Nat} {w w' : World} {m : Nat} {wv v : Value} {n : Nat} {ps : Nat → Nat} {R : Nat → Rep} (h : Regs B w m wv v n ps R) (hb : Below w.heap.size w w') : Regs B w' m wv v n ps R :=
  ⟨h.low, (hb.block m (lt_of_some h.mem)).trans h.mem, ownsRow_block h.own (fun k hk => hb.block k (h.own.lt k hk).2), fun i hi => (hb.block _ (lt_of_some (h.rep i hi))).trans (h.rep i hi)⟩

theorem heap_setCell_mem {w : World} {m : Nat} {l : Int} {wv v v' : Value} (h : w.heap[m]? = some (memObj l wv v)) : (w.setCell ⟨m, 15, none⟩ v').heap[m]? = some (memObj l wv v') := by
  simp only [World.setCell, Array.getElem?_modify, if_pos, h, memObj]
  rfl

theorem cell_of_heap {w : World} {k : Nat} {cs : Array Value} {t : TypeId} (h : w.heap[k]? = some (.cells cs t)) (i : Nat) {u : Value} (hu : cs[i]? = some u) : w.cell? ⟨k, i, none⟩ = some u := by
  simp [World.cell?, h, hu]

theorem frozen_of_heap {w : World} {k : Nat} {cs : Array Value} {t : TypeId} (h : w.heap[k]? = some (.cells cs t)) (i : Nat) : w.frozen? ⟨k, i, none⟩ = false := by
  simp [World.frozen?, h]

/-- WHAT THE REGISTRATION's STORES COME TO. -/
theorem regs_step {B : Nat} {w w1 : World} {m : Nat} {wv v : Value} {n : Nat} {ps : Nat → Nat} {R : Nat → Rep} (h : Regs B w m wv v n ps R) (hB : B ≤ w.heap.size) {g cap : Nat} {o1 : Obj}
    (hown : w1.ownsRow B 77 1 (.slice (some ⟨g, 0, none⟩) (n + 1) cap) (n + 1) (((List.range n).map fun i => Value.pointer (some ⟨ps i, 0, none⟩)) ++ [.pointer (some ⟨w.heap.size, 0, none⟩)]))
    (hgr : ((w.alloc (R n).obj).alloc o1).grownBy w1 v.ownBlock) :
    Regs B (w1.setCell ⟨m, 15, none⟩ (.slice (some ⟨g, 0, none⟩) (n + 1) cap)) m wv (.slice (some ⟨g, 0, none⟩) (n + 1) cap) (n + 1) (fun i => if i < n then ps i else w.heap.size) R ∧
    Below B w (w1.setCell ⟨m, 15, none⟩ (.slice (some ⟨g, 0, none⟩) (n + 1) cap)) ∧ Kept w (w1.setCell ⟨m, 15, none⟩ (.slice (some ⟨g, 0, none⟩) (n + 1) cap)) := by
  have hsz : w.heap.size + 2 ≤ w1.heap.size := by have := hgr.size; simpa using this
  have old : ∀ k, k < w.heap.size → some k ≠ v.ownBlock → w1.heap[k]? = w.heap[k]? := fun k hk hne => by
    rw [hgr.block k (by simp; omega) hne, Below.heap_alloc _ _ _ (by simp; omega), Below.heap_alloc _ _ _ hk]
  have hmne : some m ≠ v.ownBlock := own_ne h.own h.mem (by decide)
  have hm1 : w1.heap[m]? = some (memObj 0 wv v) := (old m (lt_of_some h.mem) hmne).trans h.mem
  have hSne : some w.heap.size ≠ v.ownBlock := fun he => by have := (h.own.lt _ he.symm).2; omega
  have hS : w1.heap[w.heap.size]? = some (R n).obj := by
    rw [hgr.block _ (by simp; omega) hSne, Below.heap_alloc _ _ _ (by simp)]
    exact heap_alloc_new w _
  have hset : ∀ k, k ≠ m → (w1.setCell ⟨m, 15, none⟩ (.slice (some ⟨g, 0, none⟩) (n + 1) cap)).heap[k]? = w1.heap[k]? := fun k hk => Below.heap_setCell _ _ _ _ hk
  have ne_m : ∀ k c t, w1.heap[k]? = some (.cells c t) → t ≠ 76 → k ≠ m := fun k c t hk ht e => by
    subst e; rw [hm1] at hk; injection hk with hk; injection hk with _ h2 _; exact ht h2.symm
  have hrep : ∀ i, i < n → w1.heap[ps i]? = some (R i).obj := fun i hi =>
    (old _ (lt_of_some (h.rep i hi)) (own_ne h.own (h.rep i hi) (by decide))).trans (h.rep i hi)
  refine ⟨⟨h.low, heap_setCell_mem hm1, ?_, ?_⟩, ?_, ?_⟩
  · have e : ((List.range (n + 1)).map fun i => Value.pointer (some ⟨if i < n then ps i else w.heap.size, 0, none⟩)) = ((List.range n).map fun i => Value.pointer (some ⟨ps i, 0, none⟩)) ++ [.pointer (some ⟨w.heap.size, 0, none⟩)] := by
      rw [List.range_succ, List.map_append]
      congr 1
      · refine List.map_congr_left fun i hi => ?_
        rw [if_pos (List.mem_range.1 hi)]
      · simp
    rw [e]
    refine ownsRow_block hown fun k hk => hset k ?_
    obtain ⟨cur, hc⟩ := own_tag hown hk
    exact ne_m k _ _ hc (by decide)
  · intro i hi
    by_cases hin : i < n
    · rw [if_pos hin, hset _ (ne_m _ _ _ (hrep i hin) (by decide))]
      exact hrep i hin
    · have : i = n := by omega
      subst this
      rw [if_neg hin, hset _ (ne_m _ _ _ hS (by decide))]
      exact hS
  · refine Below.setCell (p := ⟨m, 15, none⟩) ?_ h.low _
    refine Below.grown (((Below.refl _ _).alloc hB _).alloc (by simp; omega) _) hgr (by simp; omega) fun k hk => (h.own.lt k hk).1
  · intro k o hk ho
    have hkm : k ≠ m := fun e => by subst e; rw [h.mem] at hk; injection hk with hk; subst hk; simp [mine, memObj] at ho
    rw [hset k hkm, old k (lt_of_some hk) fun he => ?_]
    · exact hk
    · obtain ⟨cur, hc⟩ := own_tag h.own he.symm
      rw [hk] at hc; injection hc with hc; subst hc; simp [mine] at ho

set_option maxHeartbeats 400000 in
theorem addReplica_any (B m n : Nat) (wv v : Value) (ps : Nat → Nat) (R : Nat → Rep) (w : World) (h : Regs B w m wv v n ps R) (hB : B ≤ w.heap.size) (hn : n ≤ 65536) :
    Calls Try.prog 17 #[.pointer (some ⟨m, 0, none⟩), .string (R n).name, .string (R n).address, .string (R n).mode, .string (R n).status, .int .i64 (R n).ts] w fun e w' =>
      e = .returned (.tuple #[]) ∧ ∃ v' ps', Regs B w' m wv v' (n + 1) ps' R ∧ Below B w w' ∧ Kept w w' := by
  obtain ⟨i0, hi, hz0, hz1, hz2⟩ := info_parts info77
  have hm := h.mem
  have hc := cell_of_heap hm 15 (u := v) rfl
  have hmne : some m ≠ v.ownBlock := own_ne h.own h.mem (by decide)
  have hml := lt_of_some hm
  clear hm
  go_enter Try.func17, Try.ntmps17
  go_wp2_with (at_builtin; refine wpList_append_lies _ (by rfl) _ _ _ (by rfl) B 77 i0 (.pointer none) 1 8 Try.underlying64 hi hz0 hz1 hz2 rfl (by omega) v n _ (by rfl) ((h.own.alloc _).alloc _) ⟨w.heap.size + 1, 0, none⟩ 1 1 [.pointer (some ⟨w.heap.size, 0, none⟩)] (by rfl) rfl ?_ (by simp [Value.oneCell']) (by omega) (by unfold maxLen; omega) (by omega) (by simp; omega) (w.heap.size + 2) (by simp) ?_)
  · exact World.news_of_block (t := 77) (cs := #[.pointer (some ⟨w.heap.size, 0, none⟩)]) (new_two _ _ _)
  · intro g cap w1 hown hgr _ hlt
    have hgr' : ((w.alloc (R n).obj).alloc (.cells #[.pointer (some ⟨w.heap.size, 0, none⟩)] 77)).grownBy w1 v.ownBlock := hgr
    have fin := regs_step h hB hown hgr'
    have hm1 : w1.heap[m]? = some (memObj 0 wv v) := by
      rw [hgr.block m (by simp; omega) hmne, Below.heap_alloc _ _ _ (by simp; omega), Below.heap_alloc _ _ _ hml]
      exact h.mem
    have hc1 := cell_of_heap hm1 15 (u := v) rfl
    have hf1 := frozen_of_heap hm1 15
    clear hgr hgr' hown hm1 h hc
    go_wp2_with fail
    go_end0
    exact ⟨rfl, _, _, fin⟩

end Go.Proofs.Qxb6613399a.Show
