/- A LAW OF OUR OWN for a range over a function whose body MAKES AND WRITES A MAP in its rounds (the kit's laws let a body write only a map that was made ahead of the loop; an invariant of theirs abides the turn of any map laid since). Asked of the body: that the loop's record and the block for deferred calls lie as they lay. The body goes on or returns. -/
import Derived.RangeFuncNested
import Derived.RangeFuncBound
import Derived.RangeFuncCalls
import Derived.RangeFuncLeaves
import Derived.Shelf.Abstract
import Derived.Shelf.RegionOpen
import Derived.WalkKit
import Derived.OwnWalkIn
import Derived.TacticsInMore
import Derived.LoopNIn
import Derived.LoopIn
namespace Go.Proofs.Qxb6613472a.Range
open Go Go.RowKit
variable {F : Fence} {n : Nat} {P : Program}

/-- The two blocks of the loop's own lie as they lay. -/
def Two (B : Nat) (W W' : World) : Prop := W'.heap[B]? = W.heap[B]? ∧ W'.heap[B + 1]? = W.heap[B + 1]?

theorem Two.refl (B : Nat) (W : World) : Two B W W := ⟨rfl, rfl⟩
theorem Two.trans {B : Nat} {X Y Z : World} (h : Two B X Y) (k : Two B Y Z) : Two B X Z := ⟨k.1.trans h.1, k.2.trans h.2⟩

/-- How a round may be left. -/
def post {α : Type} (B : Nat) (Kp : World → World → Prop) (I Ix : List α → World → Prop) (xs : List α) (W : World) : Exit → Act → World → Prop
  | .normal, _, W' => Two B W W' ∧ Kp W W' ∧ I xs W'
  | .ret, _, W' => Two B W W' ∧ Ix xs W'
  | _, _, _ => False

theorem law {α : Type} {g : Operand} {ps : Array Tmp} {assign body : Code} {Q : Exit → Act → World → Prop} {a : Act} {w : World}
    (hro : F.round = none) (h1 : 1 ≤ n) {gf : Nat} {lb : Array Value} (hg : a.eval g = .func (.func gf) #[] lb) (hFg : F.fn gf) (eg : ∀ args w, (callFunc gf args).run P w = .ok (.enter gf args) w)
    {encs : α → Array Value} {Kp : World → World → Prop} {S Sp : List α → Prop} {N : Nat}
    (hseq : ∀ (l : Nat) (J Jx : List α → World → Prop) (W : World), Below w.heap.size w W →
      (∀ pre x W1, J pre W1 → pre.length < N → YieldAt F (n - 1 - 1) P l (encs x) W1 fun e W' =>
        (e = .returned (.bool true) ∧ J (pre ++ [x]) W' ∧ Kp W1 W') ∨ (e = .returned (.bool false) ∧ Jx (pre ++ [x]) W')) →
      J [] W →
      CallsIn F (n - 1) P gf (#[.func (.yield l) #[] #[]] ++ lb) W fun e W' => (∃ v, e = .returned v) ∧ ((∃ xs, S xs ∧ J xs W') ∨ (∃ pre, Sp pre ∧ Jx pre W')))
    (hKt : ∀ {A B C : World}, Kp A B → Kp B C → Kp A C) (hKb : ∀ (W : World) (r r' : Loop), W.heap[w.heap.size + 1]? = some (.loop r) → Kp W (W.putObj (w.heap.size + 1) (.loop r'))) (hps : ∀ x, (encs x).size = ps.size)
    (I Ix : List α → World → Prop)
    (hI0 : ∀ o o', I [] ((w.alloc o).alloc o'))
    (hIp : ∀ pre (W : World) (r r' : Loop), I pre W → W.heap[w.heap.size + 1]? = some (.loop r) → I pre (W.putObj (w.heap.size + 1) (.loop r')))
    (hIxp : ∀ pre (W : World) (r r' : Loop), Ix pre W → W.heap[w.heap.size + 1]? = some (.loop r) → Ix pre (W.putObj (w.heap.size + 1) (.loop r')))
    (a₁ : α → Act)
    (hassign : ∀ (l : Nat) (x : α) (W : World) (K : Act → World → Prop), K (a₁ x) W →
      assign.wpIn (F.inRound l) (n - 1 - 1) P (Exit.then K (fun _ _ _ => False)) { tmps := (ps.zip (encs x)).foldl (fun t (p, v) => t.setIfInBounds p v) a.tmps, defers := [] } W)
    (hbody : ∀ (l : Nat) (pre : List α) (x : α) (W : World), w.heap.size + 1 < W.heap.size → I pre W → pre.length < N → body.wpIn (F.inRound l) (n - 1 - 1) P (post w.heap.size Kp I Ix (pre ++ [x]) W) (a₁ x) W)
    (hdone : ∀ (xs : List α) (W : World), S xs → I xs W → W.heap[w.heap.size]? = some (.deferred (some [])) → Q .normal { a with defers := { target := .collected w.heap.size, args := #[] } :: a.defers } W)
    (hstop : ∀ (pre : List α) (W : World), Sp pre → Ix pre W → W.heap[w.heap.size]? = some (.deferred (some [])) → Code.ret.wpIn F n P Q { a with defers := { target := .collected w.heap.size, args := #[] } :: a.defers } W) :
    (Code.rangeFunc g ps assign body).wpIn F n P Q a w := by
  refine wpIn_rangeFunc ?_
  intro fn hfn
  rw [hro]
  obtain ⟨rec, hrec⟩ : ∃ rec : LoopState → Option Code → Loop, rec = fun st pe => { state := st, pending := pe, fn, tmps := a.tmps, params := ps, assign, body, defers := w.heap.size } := ⟨_, rfl⟩
  obtain ⟨W1, hW1⟩ : ∃ W1, (w.alloc (.deferred (some []))).alloc (.loop (rec .ready none)) = W1 := ⟨_, rfl⟩
  have hL1 : W1.heap[w.heap.size + 1]? = some (.loop (rec .ready none)) := by
    rw [← hW1]; have := World.alloc_heap_new (w.alloc (.deferred (some []))) (.loop (rec .ready none)); rwa [World.size_alloc] at this
  have hK1 : W1.heap[w.heap.size]? = some (.deferred (some [])) := by
    rw [← hW1]; exact (Below.heap_alloc _ _ _ (by simp)).trans (World.alloc_heap_new w _)
  have hI1 : I [] W1 := by rw [← hW1]; exact hI0 _ _
  have hb1 : Below w.heap.size w W1 := by
    rw [← hW1]; exact ((Below.refl _ w).alloc (Nat.le_refl _) _).alloc (by simp) _
  refine ⟨w.heap.size + 1, [{ target := .collected w.heap.size, args := #[] }], W1, { target := .fn (.func gf) lb, args := #[.func (.yield (w.heap.size + 1)) #[] #[]] }, W1, gf,
    #[.func (.yield (w.heap.size + 1)) #[] #[]] ++ lb, W1, ?_, ?_, ?_, ?_, fun _ => h1, ?_⟩
  · rw [← hW1, hrec]; exact run_enterLoop_outer _ _ _ _ _
  · simp only [resolve, hg]
    simp [go_sem]
  · intro f' hf'; simp [Target.leads] at hf'; subst hf'; exact hFg
  · simp [invoke, go_sem, eg]
  · refine (hseq (w.heap.size + 1)
      (fun pre W => I pre W ∧ W.heap[w.heap.size + 1]? = some (.loop (rec .ready none)) ∧ W.heap[w.heap.size]? = some (.deferred (some [])))
      (fun pre W => Ix pre W ∧ W.heap[w.heap.size + 1]? = some (.loop (rec .done (some .ret))) ∧ W.heap[w.heap.size]? = some (.deferred (some [])))
      W1 hb1 ?_ ⟨hI1, hL1, hK1⟩).mono ?_
    · rintro pre x W ⟨hi, hl, hk⟩ hlen
      have hlt : w.heap.size + 1 < W.heap.size := (Array.getElem?_eq_some_iff.1 hl).1
      have hy := run_yield (P := P) (args := encs x) hl (by rw [hrec]; exact hps x)
      rw [hrec] at hy
      refine ⟨fn, _, assign, body, hy, roundIn_of_wpIn hfn (hassign _ x W _ ⟨_, run_beginRound hl (by rw [hrec]), ?_⟩)⟩
      have hl2 : (W.putObj (w.heap.size + 1) (.loop { rec .ready none with state := .busy })).heap[w.heap.size + 1]? = some (.loop { rec .ready none with state := .busy }) := World.putObj_heap_same hlt
      have hk2 : (W.putObj (w.heap.size + 1) (.loop { rec .ready none with state := .busy })).heap[w.heap.size]? = some (.deferred (some [])) := (World.putObj_heap_other (by omega)).trans hk
      have hw2 : Kp W (W.putObj (w.heap.size + 1) (.loop { rec .ready none with state := .busy })) := hKb _ _ _ hl
      have hlt2 : w.heap.size + 1 < (W.putObj (w.heap.size + 1) (.loop { rec .ready none with state := .busy })).heap.size := (Array.getElem?_eq_some_iff.1 hl2).1
      refine wpIn_mono (hbody _ pre x _ hlt2 (hIp _ _ _ _ hi hl) hlen) ?_
      have fin : ∀ (jump : Option Code) (W3 : World), Two w.heap.size (W.putObj (w.heap.size + 1) (.loop { rec .ready none with state := .busy })) W3 →
          (Instr.endRound (w.heap.size + 1) jump).run P W3 = .ok (.bool jump.isNone) (W3.putObj (w.heap.size + 1) (.loop (rec (if jump.isNone then .ready else .done) jump))) ∧
          W3.heap[w.heap.size + 1]? = some (.loop { rec .ready none with state := .busy }) ∧
          (W3.putObj (w.heap.size + 1) (.loop (rec (if jump.isNone then .ready else .done) jump))).heap[w.heap.size + 1]? = some (.loop (rec (if jump.isNone then .ready else .done) jump)) ∧
          (W3.putObj (w.heap.size + 1) (.loop (rec (if jump.isNone then .ready else .done) jump))).heap[w.heap.size]? = some (.deferred (some [])) := fun jump W3 hk3 => by
        have hl3 := hk3.2.trans hl2
        have := run_endRound (P := P) jump hl3
        rw [hrec] at this ⊢
        exact ⟨this, by rw [hrec] at hl3; exact hl3, World.putObj_heap_same (Array.getElem?_eq_some_iff.1 hl3).1, (World.putObj_heap_other (by omega)).trans (hk3.1.trans hk2)⟩
      rintro e a3 W3 hp
      cases e with
      | normal =>
        obtain ⟨hk3, hkp3, hi3⟩ := hp
        obtain ⟨hr, hl3, hl4, hk4⟩ := fin none W3 hk3
        exact ⟨_, _, hr, .inl ⟨rfl, ⟨hIp _ _ _ _ hi3 hl3, hl4, hk4⟩, hKt (hKt hw2 hkp3) (hKb _ _ _ hl3)⟩⟩
      | ret =>
        obtain ⟨hk3, hi3⟩ := hp
        obtain ⟨hr, hl3, hl4, hk4⟩ := fin (some .ret) W3 hk3
        exact ⟨_, _, hr, .inr ⟨rfl, hIxp _ _ _ _ hi3 hl3, hl4, hk4⟩⟩
      | exit id => exact hp.elim
      | goto t => exact hp.elim
      | panic ch => exact hp.elim
      | outgrown => exact hp.elim
    · rintro e W2 ⟨⟨v, rfl⟩, (⟨xs, hS, hi, hl, hk⟩ | ⟨pre, hSp, hi, hl, hk⟩)⟩
      · exact ⟨none, _, by have := run_endLoop (P := P) hl (by rw [hrec]; simp); rw [hrec] at this; exact this, hdone xs _ hS (hIp _ _ _ _ hi hl) ((World.putObj_heap_other (by omega)).trans hk)⟩
      · exact ⟨some .ret, _, by have := run_endLoop (P := P) hl (by rw [hrec]; simp); rw [hrec] at this; exact this, hstop pre _ hSp (hIxp _ _ _ _ hi hl) ((World.putObj_heap_other (by omega)).trans hk)⟩

end Go.Proofs.Qxb6613472a.Range
