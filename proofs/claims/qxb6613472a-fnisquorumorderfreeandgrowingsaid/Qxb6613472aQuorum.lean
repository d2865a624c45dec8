/- quorumOf. -/
import Derived.Test.Qxb6613472aBits
import Derived.RangeFuncBox
import Derived.OneCell
import Derived.Sort.QuietIn
namespace Go.Proofs.Qxb6613472a.Quorum
open Go Go.RowKit Go.Shelf Go.Proofs.Qxb6613472a.Base Go.Proofs.Qxb6613472a.Plain
set_option linter.unusedVariables false
set_option maxRecDepth 100000
attribute [local go_sem] Oper.semAt_some

/-- What the function knows of the members found so far: bits, or a map. -/
def Seen (S : Nat) (W : World) (n : Nat) (f : Nat → Int) (pre : List Int) (B : Nat) (M : Option Nat) : Prop :=
  (n ≤ 64 ∧ M = none ∧ B < 2 ^ 64 ∧ ∀ k, k < n → B.testBit k = decide (f k ∈ pre)) ∨
  (64 < n ∧ B = 0 ∧ ((M = none ∧ ∀ k, k < n → ¬ f k ∈ pre) ∨ ∃ r es c, M = some r ∧ W.heap[r]? = some (.map es c) ∧ S + 1 + 1 + 1 + 1 + 1 + 1 + 1 < r ∧ MapIs n f pre es))

theorem Seen.same {S : Nat} {W : World} {n : Nat} {f : Nat → Int} {pre pre' : List Int} {B : Nat} {M : Option Nat} (h : Seen S W n f pre B M) (hp : ∀ k, k < n → (f k ∈ pre ↔ f k ∈ pre')) : Seen S W n f pre' B M := by
  rcases h with ⟨h1, h2, h3, h4⟩ | ⟨h1, h2, ⟨h3, h4⟩ | ⟨r, es, c, h3, h4, hr, h5⟩⟩
  · exact .inl ⟨h1, h2, h3, fun k hk => by rw [h4 k hk, decide_eq_decide]; exact hp k hk⟩
  · exact .inr ⟨h1, h2, .inl ⟨h3, fun k hk hx => h4 k hk ((hp k hk).2 hx)⟩⟩
  · exact .inr ⟨h1, h2, .inr ⟨r, es, c, h3, h4, hr, h5.same hp⟩⟩
theorem Seen.heap {S : Nat} {W W' : World} {n : Nat} {f : Nat → Int} {pre : List Int} {B : Nat} {M : Option Nat} (h : Seen S W n f pre B M) (e : W'.heap = W.heap) : Seen S W' n f pre B M := by
  unfold Seen; rw [e]; exact h
theorem Seen.other {S : Nat} {W : World} {n : Nat} {f : Nat → Int} {pre : List Int} {x : Int} {B : Nat} {M : Option Nat} (h : Seen S W n f pre B M) (hno : ∀ i, i < n → f i ≠ x) : Seen S W n f (pre ++ [x]) B M :=
  h.same fun k hk => by simp [hno k hk]
theorem Seen.again {S : Nat} {W : World} {n : Nat} {f : Nat → Int} {pre : List Int} {x : Int} {B : Nat} {M : Option Nat} (h : Seen S W n f pre B M) (hx : x ∈ pre) : Seen S W n f (pre ++ [x]) B M :=
  h.same fun k hk => by
    simp only [List.mem_append, List.mem_singleton]
    exact ⟨.inl, fun h => h.elim id (fun e => e ▸ hx)⟩

/-- What stands between two rounds. -/
structure Inv (w : World) (a : Option Addr) (n cap : Nat) (f : Nat → Int) (size : Int) (pre : List Int) (W : World) : Prop where
  low : Below w.heap.size w W
  b0 : W.heap[w.heap.size]? = some (.cells #[.slice a n cap] 23 (0, 0))
  b1 : W.heap[w.heap.size + 1]? = some (.cells #[.bool false] 4 (0, 0))
  b2 : W.heap[w.heap.size + 1 + 1]? = some (.cells #[.int .i64 (need size n)] 3 (0, 0))
  b5 : W.heap[w.heap.size + 1 + 1 + 1 + 1 + 1]? = some (.cells #[.int .i64 (hits f n pre)] 3 (0, 0))
  more : ∃ (B : Nat) (M : Option Nat), W.heap[w.heap.size + 1 + 1 + 1]? = some (.cells #[.int .u64 B] 22 (0, 0)) ∧ W.heap[w.heap.size + 1 + 1 + 1 + 1]? = some (.cells #[.map M] 56 (0, 0)) ∧ Seen w.heap.size W n f pre B M
  less : (hits f n pre : Int) < need size n

/-- What stands where a round has returned. -/
structure Out (w : World) (n : Nat) (f : Nat → Int) (size : Int) (pre : List Int) (W : World) : Prop where
  low : Below w.heap.size w W
  b1 : W.heap[w.heap.size + 1]? = some (.cells #[.bool true] 4 (0, 0))
  full : need size n ≤ (hits f n pre : Int)

theorem again_post {w W : World} {a : Option Addr} {n cap : Nat} {f : Nat → Int} {size : Int} {pre : List Int} {x : Int} {B : Nat} {act : Act} (h : Inv w a n cap f size pre W) (hx : x ∈ pre) (W' : World) (hb : ∀ B, Below B W W') (e : W'.heap = W.heap) :
    Range.post B (Below w.heap.size) (Inv w a n cap f size) (Out w n f size) (pre ++ [x]) W .normal act W' := by
  obtain ⟨B, M, b3, b4, hs⟩ := h.more
  refine ⟨⟨by rw [e], by rw [e]⟩, hb _, ⟨h.low.trans (hb _), by rw [e]; exact h.b0, by rw [e]; exact h.b1, by rw [e]; exact h.b2, by rw [e, hits_again hx]; exact h.b5, ⟨B, M, by rw [e]; exact b3, by rw [e]; exact b4, (hs.heap e).again hx⟩, by rw [hits_again hx]; exact h.less⟩⟩

theorem post_drew {w W W' : World} {a : Option Addr} {n cap : Nat} {f : Nat → Int} {size : Int} {pre : List Int} {B : Nat} {act : Act} {e : Exit} (h : Range.post B (Below w.heap.size) (Inv w a n cap f size) (Out w n f size) pre W e act W') :
    Range.post B (Below w.heap.size) (Inv w a n cap f size) (Out w n f size) pre W e act W'.drew := by
  cases e with
  | normal => exact ⟨h.1, h.2.1.drew, ⟨h.2.2.low.drew, h.2.2.b0, h.2.2.b1, h.2.2.b2, h.2.2.b5, h.2.2.more, h.2.2.less⟩⟩
  | ret => exact ⟨h.1, ⟨h.2.low.drew, h.2.b1, h.2.full⟩⟩
  | exit id => exact h
  | goto t => exact h
  | panic ch => exact h
  | outgrown => exact h

/-- A member found for the first time has been written down; not yet counted. -/
structure Mid (w : World) (a : Option Addr) (n cap : Nat) (f : Nat → Int) (size : Int) (pre : List Int) (x : Int) (W W1 : World) : Prop where
  low : Below w.heap.size w W
  kept : Below w.heap.size W W1
  two : Range.Two (w.heap.size + 1 + 1 + 1 + 1 + 1 + 1) W W1
  b0 : W1.heap[w.heap.size]? = some (.cells #[.slice a n cap] 23 (0, 0))
  b1 : W1.heap[w.heap.size + 1]? = some (.cells #[.bool false] 4 (0, 0))
  b2 : W1.heap[w.heap.size + 1 + 1]? = some (.cells #[.int .i64 (need size n)] 3 (0, 0))
  b5 : W1.heap[w.heap.size + 1 + 1 + 1 + 1 + 1]? = some (.cells #[.int .i64 (hits f n pre)] 3 (0, 0))
  more : ∃ (B : Nat) (M : Option Nat), W1.heap[w.heap.size + 1 + 1 + 1]? = some (.cells #[.int .u64 B] 22 (0, 0)) ∧ W1.heap[w.heap.size + 1 + 1 + 1 + 1]? = some (.cells #[.map M] 56 (0, 0)) ∧ Seen w.heap.size W1 n f (pre ++ [x]) B M
  new : hits f n (pre ++ [x]) = hits f n pre + 1

theorem Seen.set {S : Nat} {W : World} {n : Nat} {f : Nat → Int} {pre : List Int} {B q : Nat} {M : Option Nat} {cs : Array Value} {t : TypeId} {fr : Nat × Nat} (h : Seen S W n f pre B M) (hq : W.heap[q]? = some (.cells cs t fr)) (v : Value) : Seen S (W.setCell ⟨q, 0, none⟩ v) n f pre B M := by
  rcases h with h | ⟨h1, h2, h3 | ⟨r, es, c, h3, h4, hr, h5⟩⟩
  · exact .inl h
  · exact .inr ⟨h1, h2, .inl h3⟩
  · refine .inr ⟨h1, h2, .inr ⟨r, es, c, h3, ?_, hr, h5⟩⟩
    rw [Below.heap_setCell _ _ _ _ (fun e => by rw [e, hq] at h4; cases h4)]; exact h4

theorem Mid.normal {w W W1 : World} {a : Option Addr} {n cap : Nat} {f : Nat → Int} {size : Int} {pre : List Int} {x : Int} {act : Act} (h : Mid w a n cap f size pre x W W1) (hless : ¬ need size n ≤ (hits f n pre : Int) + 1) :
    Range.post (w.heap.size + 1 + 1 + 1 + 1 + 1 + 1) (Below w.heap.size) (Inv w a n cap f size) (Out w n f size) (pre ++ [x]) W .normal act (W1.setCell ⟨w.heap.size + 1 + 1 + 1 + 1 + 1, 0, none⟩ (.int .i64 ((hits f n pre : Int) + 1))) := by
  obtain ⟨B, M, b3, b4, hs⟩ := h.more
  have ho : ∀ k, k ≠ w.heap.size + 1 + 1 + 1 + 1 + 1 → (W1.setCell ⟨w.heap.size + 1 + 1 + 1 + 1 + 1, 0, none⟩ (.int .i64 ((hits f n pre : Int) + 1))).heap[k]? = W1.heap[k]? := fun k hk => Below.heap_setCell _ _ _ _ hk
  have hk : Below w.heap.size W (W1.setCell ⟨w.heap.size + 1 + 1 + 1 + 1 + 1, 0, none⟩ (.int .i64 ((hits f n pre : Int) + 1))) := h.kept.setCell (show w.heap.size ≤ w.heap.size + 1 + 1 + 1 + 1 + 1 by omega) _
  refine ⟨⟨?_, ?_⟩, hk, ⟨h.low.trans hk, ?_, ?_, ?_, ?_, ⟨B, M, ?_, ?_, hs.set h.b5 _⟩, ?_⟩⟩
  · rw [ho _ (by omega)]; exact h.two.1
  · rw [ho _ (by omega)]; exact h.two.2
  · rw [ho _ (by omega)]; exact h.b0
  · rw [ho _ (by omega)]; exact h.b1
  · rw [ho _ (by omega)]; exact h.b2
  · rw [h.new]; exact one_setCell h.b5
  · rw [ho _ (by omega)]; exact b3
  · rw [ho _ (by omega)]; exact b4
  · rw [h.new]; omega

theorem Mid.ret {w W W1 : World} {a : Option Addr} {n cap : Nat} {f : Nat → Int} {size : Int} {pre : List Int} {x : Int} {act : Act} (h : Mid w a n cap f size pre x W W1) (hless : need size n ≤ (hits f n pre : Int) + 1) :
    Range.post (w.heap.size + 1 + 1 + 1 + 1 + 1 + 1) (Below w.heap.size) (Inv w a n cap f size) (Out w n f size) (pre ++ [x]) W .ret act ((W1.setCell ⟨w.heap.size + 1 + 1 + 1 + 1 + 1, 0, none⟩ (.int .i64 ((hits f n pre : Int) + 1))).setCell ⟨w.heap.size + 1, 0, none⟩ (.bool true)) := by
  have ho : ∀ k, k ≠ w.heap.size + 1 + 1 + 1 + 1 + 1 → (W1.setCell ⟨w.heap.size + 1 + 1 + 1 + 1 + 1, 0, none⟩ (.int .i64 ((hits f n pre : Int) + 1))).heap[k]? = W1.heap[k]? := fun k hk => Below.heap_setCell _ _ _ _ hk
  have ho2 : ∀ k, k ≠ w.heap.size + 1 → ((W1.setCell ⟨w.heap.size + 1 + 1 + 1 + 1 + 1, 0, none⟩ (.int .i64 ((hits f n pre : Int) + 1))).setCell ⟨w.heap.size + 1, 0, none⟩ (.bool true)).heap[k]? = (W1.setCell ⟨w.heap.size + 1 + 1 + 1 + 1 + 1, 0, none⟩ (.int .i64 ((hits f n pre : Int) + 1))).heap[k]? := fun k hk => Below.heap_setCell _ _ _ _ hk
  have hk : Below w.heap.size W ((W1.setCell ⟨w.heap.size + 1 + 1 + 1 + 1 + 1, 0, none⟩ (.int .i64 ((hits f n pre : Int) + 1))).setCell ⟨w.heap.size + 1, 0, none⟩ (.bool true)) := (h.kept.setCell (show w.heap.size ≤ w.heap.size + 1 + 1 + 1 + 1 + 1 by omega) _).setCell (show w.heap.size ≤ w.heap.size + 1 by omega) _
  refine ⟨⟨?_, ?_⟩, ⟨h.low.trans hk, ?_, ?_⟩⟩
  · rw [ho2 _ (by omega), ho _ (by omega)]; exact h.two.1
  · rw [ho2 _ (by omega), ho _ (by omega)]; exact h.two.2
  · exact one_setCell ((ho _ (by omega)).trans h.b1)
  · rw [h.new]; omega

/-- Bits: the member's bit is set. -/
theorem Mid.bit {w W W0 : World} {a : Option Addr} {n cap : Nat} {f : Nat → Int} {size : Int} {pre : List Int} {k B : Nat} (h : Inv w a n cap f size pre W) (hb : ∀ B, Below B W W0) (e : W0.heap = W.heap) (hinc : Incr n f) (hk : k < n) (hm : ¬ f k ∈ pre) (h64 : n ≤ 64)
    (b3 : W.heap[w.heap.size + 1 + 1 + 1]? = some (.cells #[.int .u64 B] 22 (0, 0))) (b4 : W.heap[w.heap.size + 1 + 1 + 1 + 1]? = some (.cells #[.map none] 56 (0, 0))) (hB : B < 2 ^ 64) (hbits : ∀ k, k < n → B.testBit k = decide (f k ∈ pre)) :
    Mid w a n cap f size pre (f k) W (W0.setCell ⟨w.heap.size + 1 + 1 + 1, 0, none⟩ (.int .u64 ((B ||| 2 ^ k : Nat) : Int))) := by
  have ho : ∀ j, j ≠ w.heap.size + 1 + 1 + 1 → (W0.setCell ⟨w.heap.size + 1 + 1 + 1, 0, none⟩ (.int .u64 ((B ||| 2 ^ k : Nat) : Int))).heap[j]? = W.heap[j]? := fun j hj => (Below.heap_setCell _ _ _ _ hj).trans (by rw [e])
  refine ⟨h.low, (hb _).setCell (show w.heap.size ≤ w.heap.size + 1 + 1 + 1 by omega) _, ⟨ho _ (by omega), ho _ (by omega)⟩, (ho _ (by omega)).trans h.b0, (ho _ (by omega)).trans h.b1, (ho _ (by omega)).trans h.b2, (ho _ (by omega)).trans h.b5, ⟨_, _, one_setCell (by rw [e]; exact b3), (ho _ (by omega)).trans b4, ?_⟩, hits_new hinc hk rfl hm⟩
  exact .inl ⟨h64, rfl, bit_lt hB (by omega), bit_just hinc hk hbits⟩

/-- A map made before. -/
theorem Mid.map {w W : World} {a : Option Addr} {n cap : Nat} {f : Nat → Int} {size : Int} {pre : List Int} {k r c : Nat} {es : Array MapEntry} (h : Inv w a n cap f size pre W) (hinc : Incr n f) (hk : k < n) (hm : ¬ f k ∈ pre) (h64 : 64 < n)
    (b3 : W.heap[w.heap.size + 1 + 1 + 1]? = some (.cells #[.int .u64 0] 22 (0, 0))) (b4 : W.heap[w.heap.size + 1 + 1 + 1 + 1]? = some (.cells #[.map (some r)] 56 (0, 0))) (hes : W.heap[r]? = some (.map es c)) (hmap : MapIs n f pre es) (hr : w.heap.size + 1 + 1 + 1 + 1 + 1 + 1 + 1 < r) :
    Mid w a n cap f size pre (f k) W (W.putObj r (.map (es.push { key := .int .i64 k, val := .bool true, born := c }) (c + 1))) := by
  have ho : ∀ j, j ≠ r → (W.putObj r (.map (es.push { key := .int .i64 k, val := .bool true, born := c }) (c + 1))).heap[j]? = W.heap[j]? := fun j hj => World.putObj_heap_other hj
  have hc : ∀ (j : Nat) (cs : Array Value) (t : TypeId) (fr : Nat × Nat), W.heap[j]? = some (.cells cs t fr) → (W.putObj r (.map (es.push { key := .int .i64 k, val := .bool true, born := c }) (c + 1))).heap[j]? = some (.cells cs t fr) := fun j cs t fr hj => (ho j (fun e => by rw [e, hes] at hj; cases hj)).trans hj
  refine ⟨h.low, ?_, ⟨ho _ (by omega), ho _ (by omega)⟩, hc _ _ _ _ h.b0, hc _ _ _ _ h.b1, hc _ _ _ _ h.b2, hc _ _ _ _ h.b5, ⟨0, some r, hc _ _ _ _ b3, hc _ _ _ _ b4, ?_⟩, hits_new hinc hk rfl hm⟩
  · exact ⟨rfl, rfl, rfl, by simp [World.putObj], fun j hj => ho j (by omega)⟩
  · exact .inr ⟨h64, rfl, .inr ⟨r, _, _, rfl, World.putObj_heap_same (lt_of_block hes), hr, hmap.put hk hinc⟩⟩

theorem Mid.trans {w W W2 W3 : World} {a : Option Addr} {n cap : Nat} {f : Nat → Int} {size : Int} {pre : List Int} {x : Int} (h : Mid w a n cap f size pre x W2 W3) (hl : Below w.heap.size w W) (hb : Below w.heap.size W W2) (ht : Range.Two (w.heap.size + 1 + 1 + 1 + 1 + 1 + 1) W W2) :
    Mid w a n cap f size pre x W W3 := ⟨hl, hb.trans h.kept, ht.trans h.two, h.b0, h.b1, h.b2, h.b5, h.more, h.new⟩

/-- The map is made. -/
theorem Inv.made {w W : World} {a : Option Addr} {n cap : Nat} {f : Nat → Int} {size : Int} {pre : List Int} (h : Inv w a n cap f size pre W) (h64 : 64 < n) (hlt : w.heap.size + 1 + 1 + 1 + 1 + 1 + 1 + 1 < W.heap.size) (hno : ∀ k, k < n → ¬ f k ∈ pre)
    (b3 : W.heap[w.heap.size + 1 + 1 + 1]? = some (.cells #[.int .u64 0] 22 (0, 0))) (b4 : W.heap[w.heap.size + 1 + 1 + 1 + 1]? = some (.cells #[.map none] 56 (0, 0))) (W2 : World) (hW2 : W2 = (W.alloc (.map #[] 0)).setCell ⟨w.heap.size + 1 + 1 + 1 + 1, 0, none⟩ (.map (some W.heap.size))) :
    Inv w a n cap f size pre W2 ∧ Below w.heap.size W W2 ∧ Range.Two (w.heap.size + 1 + 1 + 1 + 1 + 1 + 1) W W2 ∧ W2.heap[w.heap.size + 1 + 1 + 1]? = some (.cells #[.int .u64 0] 22 (0, 0)) ∧ W2.heap[w.heap.size + 1 + 1 + 1 + 1]? = some (.cells #[.map (some W.heap.size)] 56 (0, 0)) ∧ W2.heap[W.heap.size]? = some (.map #[] 0) := by
  have ho : ∀ j, j ≠ w.heap.size + 1 + 1 + 1 + 1 → j < W.heap.size → W2.heap[j]? = W.heap[j]? := fun j hj hl => by
    rw [hW2]; exact (Below.heap_setCell _ _ _ _ hj).trans (Below.heap_alloc _ _ _ hl)
  have hb : Below w.heap.size W W2 := by
    rw [hW2]; exact ((Below.refl _ W).alloc (by omega) _).setCell (show w.heap.size ≤ w.heap.size + 1 + 1 + 1 + 1 by omega) _
  have hm : W2.heap[W.heap.size]? = some (.map #[] 0) := by
    rw [hW2]; exact (Below.heap_setCell _ _ _ _ (show W.heap.size ≠ w.heap.size + 1 + 1 + 1 + 1 by omega)).trans (World.alloc_heap_new W _)
  have hc4 : W2.heap[w.heap.size + 1 + 1 + 1 + 1]? = some (.cells #[.map (some W.heap.size)] 56 (0, 0)) := by
    rw [hW2]; exact one_setCell ((Below.heap_alloc _ _ _ (by omega)).trans b4)
  have hc3 := (ho _ (by omega) (by omega)).trans b3
  exact ⟨⟨h.low.trans hb, (ho _ (by omega) (by omega)).trans h.b0, (ho _ (by omega) (by omega)).trans h.b1, (ho _ (by omega) (by omega)).trans h.b2, (ho _ (by omega) (by omega)).trans h.b5, ⟨0, some W.heap.size, hc3, hc4, .inr ⟨h64, rfl, .inr ⟨_, _, _, rfl, hm, hlt, MapIs.none hno⟩⟩⟩, h.less⟩, hb, ⟨ho _ (by omega) (by omega), ho _ (by omega) (by omega)⟩, hc3, hc4, hm⟩

theorem new_at (W : World) (o : Obj) (k : Nat) (hk : k = W.heap.size) : (W.alloc o).heap[k]? = some o := by rw [hk]; exact World.alloc_heap_new W o
theorem al {W : World} {o x : Obj} {k : Nat} (h : W.heap[k]? = some x) : (W.alloc o).heap[k]? = some x := (Below.heap_alloc _ _ _ (lt_of_block h)).trans h

theorem low_put {B r : Nat} {w W : World} (h : Below B w W) (hr : B ≤ r) (o : Obj) : Below B w (W.putObj r o) :=
  ⟨h.os, h.tape, h.output, by simpa [World.putObj] using h.size, fun k hk => (World.putObj_heap_other (by omega)).trans (h.block k hk)⟩

theorem need_pos (size : Int) (n : Nat) : ((0 : Nat) : Int) < need size n := by unfold need; split <;> omega

theorem Inv.put {w W : World} {a : Option Addr} {n cap : Nat} {f : Nat → Int} {size : Int} {pre : List Int} {r : Loop} (h : Inv w a n cap f size pre W) (hl : W.heap[w.heap.size + 1 + 1 + 1 + 1 + 1 + 1 + 1]? = some (.loop r)) (o : Obj) :
    Inv w a n cap f size pre (W.putObj (w.heap.size + 1 + 1 + 1 + 1 + 1 + 1 + 1) o) := by
  obtain ⟨B, M, b3, b4, hs⟩ := h.more
  have ho : ∀ j, j ≠ w.heap.size + 1 + 1 + 1 + 1 + 1 + 1 + 1 → (W.putObj (w.heap.size + 1 + 1 + 1 + 1 + 1 + 1 + 1) o).heap[j]? = W.heap[j]? := fun j hj => World.putObj_heap_other hj
  refine ⟨low_put h.low (by omega) _, (ho _ (by omega)).trans h.b0, (ho _ (by omega)).trans h.b1, (ho _ (by omega)).trans h.b2, (ho _ (by omega)).trans h.b5, ⟨B, M, (ho _ (by omega)).trans b3, (ho _ (by omega)).trans b4, ?_⟩, h.less⟩
  rcases hs with h | ⟨h1, h2, h3 | ⟨r, es, c, h3, h4, hr, h5⟩⟩
  · exact .inl h
  · exact .inr ⟨h1, h2, .inl h3⟩
  · exact .inr ⟨h1, h2, .inr ⟨r, es, c, h3, (ho _ (by omega)).trans h4, hr, h5⟩⟩

set_option maxHeartbeats 2000000 in
theorem quorumOf_in (a : Option Addr) (n cap b off : Nat) (f : Nat → Int) (size : Int) (Bs len cb b' off' : Nat) (a' : Option Addr) (g : Nat → Int) (w : World) (hn : n ≤ 1048576) (hl : len ≤ 1048576)
    (hf : Row w a n b off f) (hinc : Incr n f) (hBs : w.cell? ⟨Bs, 0, none⟩ = some (.slice a' len cb)) (hg : Row w a' len b' off' g) :
    CallsIn Fence.wide 5 Try.prog 17 #[.slice a n cap, .int .i64 size, .func (.func 18) #[] #[.pointer (some ⟨Bs, 0, none⟩)]] w fun e w' => e = .returned (.bool (quorum f n size (upto g len))) ∧ Below w.heap.size w w' := by
  refine callsIn_of_wp_marks Try.func17 rfl trivial ?_ rfl
  simp only [Try.ntmps17, List.size_toArray, List.length_cons, List.length_nil, Nat.reduceAdd, Nat.reduceSub, Array.replicate_succ, Array.replicate_zero, List.push_toArray, List.append_toArray, List.nil_append, List.cons_append]
  gi_wp2_with (refine ⟨trivial, ?_⟩; gi_at_call 20; refine (callsIn_wide.2 (need_any size n hn _)).mono ?_; rintro e w' ⟨rfl, rfl⟩)
  rename_i a6
  have hlow6 : ∀ (o1 o2 o3 o4 o5 o6 : Obj), Below w.heap.size w ((((((w.alloc o1).alloc o2).alloc o3).alloc o4).alloc o5).alloc o6) := fun _ _ _ _ _ _ =>
    ((((((Below.refl _ w).alloc (Nat.le_refl _) _).alloc (by simp) _).alloc (by simp; omega) _).alloc (by simp; omega) _).alloc (by simp; omega) _).alloc (by simp; omega) _
  refine Range.law rfl (by omega) (gf := 18) (lb := #[.pointer (some ⟨Bs, 0, none⟩)]) rfl trivial (enters_of Try.func18 (by kernel_rfl) rfl)
    (encs := fun x : Int => #[Value.int .u64 x]) (Kp := Below w.heap.size) (S := fun xs => xs = upto g len) (Sp := fun pre => ∃ k, k ≤ len ∧ pre = upto g k) (N := len)
    (fun l J Jx W hW hY h0 => Seq.values1 Fence.wide 4 trivial rfl (by omega) l Bs w.heap.size len cb b' off' a' g hl (fun h => hg.lt h) J Jx hY W ?_ ?_ h0)
    (fun h k => h.trans k) ?hKb (fun _ => rfl) (Inv w a n cap f size) (Out w n f size) ?hI0 ?hIp ?hIxp
    (fun x => { tmps := #[.slice a n cap, .int .i64 size, .func (.func 18) #[] #[.pointer (some ⟨Bs, 0, none⟩)], .pointer (some ⟨w.heap.size, 0, none⟩), undef, undef, .pointer (some ⟨w.heap.size + 1, 0, none⟩), .pointer (some ⟨w.heap.size + 1 + 1, 0, none⟩), .pointer (some ⟨w.heap.size + 1 + 1 + 1, 0, none⟩), .pointer (some ⟨w.heap.size + 1 + 1 + 1 + 1, 0, none⟩), .pointer (some ⟨w.heap.size + 1 + 1 + 1 + 1 + 1, 0, none⟩), .int .u64 x, undef, undef, .int .i64 size, .slice a n cap, .int .i64 n, .int .i64 (need size n), .func (.func 18) #[] #[.pointer (some ⟨Bs, 0, none⟩)], .int .u64 x, undef, undef, undef, undef, undef, undef, undef, undef, undef, undef, undef, undef, undef, undef, undef, undef, undef, undef, undef, undef, undef, undef, undef, undef, undef, undef, undef, undef, undef, undef, undef, undef, undef, undef, undef, undef, undef, undef], defers := [] }) ?assign ?body ?done ?stop
  case hKb =>
    intro W r r' hl
    exact low_put (Below.refl _ _) (by simp; omega) _
  case hI0 =>
    intro o o'
    have hb := ((hlow6 (.cells #[.slice a n cap] 23) (.cells #[.bool false] 4) (.cells #[.int .i64 (need size n)] 3) (.cells #[.int .u64 0] 22) (.cells #[.map none] 56) (.cells #[.int .i64 0] 3)).alloc (by simp; omega) o).alloc (by simp; omega) o'
    refine ⟨hb, ?_, ?_, ?_, ?_, ⟨0, none, ?_, ?_, ?_⟩, ?_⟩
    · exact al (al (al (al (al (al (al (new_at _ _ _ (by simp))))))))
    · exact al (al (al (al (al (al (new_at _ _ _ (by simp)))))))
    · exact al (al (al (al (al (new_at _ _ _ (by simp))))))
    · rw [hits_nil]; exact al (al (new_at _ _ _ (by simp)))
    · exact al (al (al (al (new_at _ _ _ (by simp)))))
    · exact al (al (al (new_at _ _ _ (by simp))))
    · by_cases h : n ≤ 64
      · exact .inl ⟨h, rfl, by omega, fun k _ => by simp⟩
      · exact .inr ⟨by omega, rfl, .inl ⟨rfl, fun k _ => by simp⟩⟩
    · rw [hits_nil]; exact need_pos size n
  case hIp =>
    intro pre W r r' h hl
    simp only [World.size_alloc] at hl ⊢
    exact h.put hl _
  case hIxp =>
    intro pre W r r' h hl
    simp only [World.size_alloc] at hl ⊢
    exact ⟨low_put h.low (by omega) _, (World.putObj_heap_other (by omega)).trans h.b1, h.full⟩
  case assign =>
    intro l x W K hK
    gi_wp2
    exact hK
  case body =>
    rintro l pre x W hlt ⟨hlow, b0, b1, b2, b5, ⟨B, M, b3, b4, hseen⟩, hless⟩ hN
    have c0 := cell_of_one b0
    have c1 := cell_of_one b1
    have c2 := cell_of_one b2
    have c3 := cell_of_one b3
    have c4 := cell_of_one b4
    have c5 := cell_of_one b5
    have e1 := free_of_one b1
    have e3 := free_of_one b3
    have e4 := free_of_one b4
    have e5 := free_of_one b5
    have hrow := hf.below hlow
    have hlt' : w.heap.size + 1 + 1 + 1 + 1 + 1 + 1 + 1 < W.heap.size := by simpa using hlt
    gi_wp2_with fail
    refine ⟨trivial, ?_⟩
    gi_at_call 21
    refine (CallsIn.inRound l (callsIn_wide.2 (search_any a n cap b off f x W hn hrow hinc))).mono ?_
    rintro e w' ⟨(⟨k, hk, hfk, rfl⟩ | ⟨k, hno, rfl⟩), rfl⟩
    · have hk' : (k : Int) < 1048576 := by omega
      have hle := hits_le f n pre
      have hh' : (hits f n pre : Int) ≤ 1048576 := by omega
      subst hfk
      by_cases hm : f k ∈ pre
      · rcases id hseen with ⟨h64, rfl, hB, hbits⟩ | ⟨h64, rfl, ⟨rfl, hmap⟩ | ⟨r, es, c, rfl, hes, hr, hmap⟩⟩
        · have h64' : (n : Int) ≤ 64 := by omega
          have hk2 : (k : Int) < 64 := by omega
          have hbit := bit_asked hB (show k < 64 by omega)
          rw [hbits k hk, decide_eq_true hm] at hbit
          gi_wp2
          gi_region
          all_goals clear hbit
          all_goals generalize bits BinOp.and IntKind.u64 _ _ = p2
          all_goals generalize IntKind.u64.wrap (2 ^ k) = p
          all_goals gi_wp2
          all_goals exact again_post ⟨hlow, b0, b1, b2, b5, ⟨B, none, b3, b4, hseen⟩, hless⟩ hm _ (fun _ => by repeat first | exact Below.refl _ _ | apply Below.drew) rfl
        · exact absurd hm (hmap k hk)
        · have hne := run_eql_map_nil w' 56 3 4 (some r) u56
          have hlk := look_yes hes hmap hk hm
          have h64' : decide ((n : Int) ≤ 64) = false := decide_eq_false (by omega)
          clear hmap
          gi_wp2
          exact again_post ⟨hlow, b0, b1, b2, b5, ⟨_, _, b3, b4, hseen⟩, hless⟩ hm _ (fun _ => by repeat first | exact Below.refl _ _ | apply Below.drew) rfl
      · have hInv : Inv w a n cap f size pre w' := ⟨hlow, b0, b1, b2, b5, ⟨B, M, b3, b4, hseen⟩, hless⟩
        rcases hseen with ⟨h64, rfl, hB, hbits⟩ | ⟨h64, rfl, ⟨rfl, hmap⟩ | ⟨r, es, c, rfl, hes, hr, hmap⟩⟩
        · have h64' : (n : Int) ≤ 64 := by omega
          have hk2 : (k : Int) < 64 := by omega
          have hbit := bit_asked hB (show k < 64 by omega)
          rw [hbits k hk, decide_eq_false hm] at hbit
          have hset := bit_set hB (show k < 64 by omega)
          gi_wp2
          gi_region
          all_goals
            clear hbit
            generalize bits BinOp.and IntKind.u64 _ _ = p2
            generalize IntKind.u64.wrap (2 ^ k) = p
            gi_wp2
            gi_region
            all_goals
              generalize hW1 : World.setCell _ _ _ = W1
              have hM : Mid w a n cap f size pre (f k) w' W1 := by
                rw [← hW1]
                exact Mid.bit hInv (fun _ => by repeat first | exact Below.refl _ _ | apply Below.drew) rfl hinc hk hm h64 b3 b4 hB hbits
              generalize IntKind.u64.wrap (2 ^ k) = p4
              clear hW1 hset hbits
              have d1 := cell_of_one hM.b1
              have d2 := cell_of_one hM.b2
              have d5 := cell_of_one hM.b5
              have g1 := free_of_one hM.b1
              have g5 := free_of_one hM.b5
              have HM : Hid _ := hM
              by_cases hfull : need size n ≤ (hits f n pre : Int) + 1
              · have HF : Hid _ := hfull
                gi_wp2
                simp only [World.size_alloc]
                repeat apply post_drew
                exact HM.out.ret HF.out
              · have HF : Hid _ := hfull
                gi_wp2
                repeat apply post_drew
                exact HM.out.normal HF.out
        · have hne := fun (w : World) => run_eql_map_nil w 56 3 4 none u56
          obtain ⟨W0, hW0⟩ : ∃ W0, W0 = w'.alloc (.map #[] 0) := ⟨_, rfl⟩
          have hmk := @run_makeMap Try.prog 56 w'
          rw [← hW0] at hmk
          obtain ⟨hI2, hk2, ht2, q3, q4, qm⟩ := Inv.made hInv h64 hlt' hmap b3 b4 (W0.setCell ⟨w.heap.size + 1 + 1 + 1 + 1, 0, none⟩ (.map (some w'.heap.size))) (by rw [hW0])
          have q0 : W0.cell? ⟨w.heap.size + 1 + 1 + 1 + 1, 0, none⟩ = some (.map none) := by rw [hW0]; exact cell_of_one ((Below.heap_alloc _ _ _ (by omega)).trans b4)
          have q1 : W0.frozen? ⟨w.heap.size + 1 + 1 + 1 + 1, 0, none⟩ = false := by rw [hW0]; exact free_of_one ((Below.heap_alloc _ _ _ (by omega)).trans b4)
          have hlk := look_no qm (MapIs.none hmap) hk hm
          obtain ⟨W1, hin, hM⟩ : ∃ W1, (Instr.mapUpdate 56 (.map (some w'.heap.size)) (.int .i64 k) (.bool true)).run Try.prog (W0.setCell ⟨w.heap.size + 1 + 1 + 1 + 1, 0, none⟩ (.map (some w'.heap.size))) = .ok () W1 ∧ Mid w a n cap f size pre (f k) w' W1 :=
            ⟨_, ins_no qm (MapIs.none hmap) hk hm, (Mid.map hI2 hinc hk hm h64 q3 q4 qm (MapIs.none hmap) hlt').trans hlow hk2 ht2⟩
          have h64' : decide ((n : Int) ≤ 64) = false := decide_eq_false (by omega)
          clear hW0 hI2 hk2 ht2 q3 q4 qm hmap
          have d1 := cell_of_one hM.b1
          have d2 := cell_of_one hM.b2
          have d5 := cell_of_one hM.b5
          have g1 := free_of_one hM.b1
          have g5 := free_of_one hM.b5
          have HM : Hid _ := hM
          by_cases hfull : need size n ≤ (hits f n pre : Int) + 1
          · have HF : Hid _ := hfull
            gi_wp2
            simp only [World.size_alloc]
            exact HM.out.ret HF.out
          · have HF : Hid _ := hfull
            have hfull' : decide (need size n ≤ (hits f n pre : Int) + 1) = false := decide_eq_false hfull
            gi_wp2
            simp only [World.size_alloc]
            exact HM.out.normal HF.out
        · have hne := run_eql_map_nil w' 56 3 4 (some r) u56
          have hlk := look_no hes hmap hk hm
          obtain ⟨W1, hin, hM⟩ : ∃ W1, (Instr.mapUpdate 56 (.map (some r)) (.int .i64 k) (.bool true)).run Try.prog w' = .ok () W1 ∧ Mid w a n cap f size pre (f k) w' W1 := ⟨_, ins_no hes hmap hk hm, Mid.map hInv hinc hk hm h64 b3 b4 hes hmap hr⟩
          have h64' : decide ((n : Int) ≤ 64) = false := decide_eq_false (by omega)
          clear hmap hes
          have d1 := cell_of_one hM.b1
          have d2 := cell_of_one hM.b2
          have d5 := cell_of_one hM.b5
          have g1 := free_of_one hM.b1
          have g5 := free_of_one hM.b5
          have HM : Hid _ := hM
          by_cases hfull : need size n ≤ (hits f n pre : Int) + 1
          · have HF : Hid _ := hfull
            gi_wp2
            simp only [World.size_alloc]
            exact HM.out.ret HF.out
          · have HF : Hid _ := hfull
            have hfull' : decide (need size n ≤ (hits f n pre : Int) + 1) = false := decide_eq_false hfull
            gi_wp2
            simp only [World.size_alloc]
            exact HM.out.normal HF.out
    · gi_wp2
      exact ⟨⟨rfl, rfl⟩, Below.refl _ _, ⟨hlow, b0, b1, b2, by rw [hits_other hno]; exact b5, ⟨B, M, b3, b4, hseen.other hno⟩, by rw [hits_other hno]; exact hless⟩⟩
  case done =>
    rintro xs W rfl ⟨hlow, b0, b1, b2, b5, _, hless⟩ hK
    simp only [World.size_alloc] at hK
    have c1 := cell_of_one b1
    have c2 := cell_of_one b2
    have c5 := cell_of_one b5
    have e1 := free_of_one b1
    have hq : decide (need size n ≤ (hits f n (upto g len) : Int)) = quorum f n size (upto g len) := rfl
    gi_wp2
    have hK' : (W.setCell ⟨w.heap.size + 1, 0, none⟩ (.bool (quorum f n size (upto g len)))).heap[w.heap.size + 1 + 1 + 1 + 1 + 1 + 1]? = some (.deferred (some [])) := (Below.heap_setCell _ _ _ _ (show w.heap.size + 1 + 1 + 1 + 1 + 1 + 1 ≠ w.heap.size + 1 by omega)).trans hK
    have hr := cell_of_one ((World.putObj_heap_other (r := w.heap.size + 1 + 1 + 1 + 1 + 1 + 1) (o := .deferred none) (by omega)).trans (one_setCell (u := .bool (quorum f n size (upto g len))) b1))
    simp only [World.size_alloc]
    refine ⟨by simp, .inl ⟨_, _, rfl, run_takeDeferred hK', ?_⟩⟩
    exact ⟨.bool (quorum f n size (upto g len)), by simp [results, Try.f17, go_sem, hr], rfl, low_put (hlow.setCell (show w.heap.size ≤ w.heap.size + 1 by omega) _) (by omega) _⟩
  case stop =>
    rintro pre W ⟨j, hj, rfl⟩ ⟨hlow, b1, hfull⟩ hK
    simp only [World.size_alloc] at hK
    have c1 := cell_of_one b1
    gi_wp2
    simp only [World.size_alloc]
    refine ⟨by simp, .inl ⟨_, _, rfl, run_takeDeferred hK, ?_⟩⟩
    have hr := cell_of_one ((World.putObj_heap_other (r := w.heap.size + 1 + 1 + 1 + 1 + 1 + 1) (o := .deferred none) (by omega)).trans b1)
    have hq : quorum f n size (upto g len) = true := by
      have := hits_sub (f := f) (n := n) (l := upto g j) (m := upto g len) (fun x hx => by
        obtain ⟨i, hi, e⟩ := mem_upto.1 hx
        exact mem_upto.2 ⟨i, by omega, e⟩)
      exact decide_eq_true (by omega)
    rw [hq]
    exact ⟨.bool true, by simp [results, Try.f17, go_sem, hr], rfl, low_put hlow (by omega) _⟩
  · exact (((hlow6 _ _ _ _ _ _).trans (hW.mono (by simp; omega))).cell (p := ⟨Bs, 0, none⟩) (World.block_lt_of_cell? _ _ hBs)).trans hBs
  · exact hg.below ((hlow6 _ _ _ _ _ _).trans (hW.mono (by simp; omega)))

end Go.Proofs.Qxb6613472a.Quorum
