/- IsQuorum. -/
import Derived.Test.Qxb6613472aCur2
namespace Go.Proofs.Qxb6613472a.Cur
open Go Go.RowKit Go.Deep Go.WideShapes Go.Proofs.Qxb6613472a.Base Go.Proofs.Qxb6613472a.Plain
set_option linter.unusedVariables false
set_option maxRecDepth 100000

/-- The nodes of each Members. -/
def Nodes (w : World) (c : Nat) (V : Nat → Value) (N : Nat → Nat) (f : Nat → Nat → Int) : Prop :=
  ∀ i, i < c → ∃ a cp b off, V i = .slice a (N i) cp ∧ N i ≤ 1048576 ∧ Row w a (N i) b off (f i) ∧ Incr (N i) (f i)

theorem Nodes.below {w w' : World} {c : Nat} {V : Nat → Value} {N : Nat → Nat} {f : Nat → Nat → Int} (h : Nodes w c V N f) (hb : Below w.heap.size w w') : Nodes w' c V N f := fun i hi => by
  obtain ⟨a, cp, b, off, h1, h2, h3, h4⟩ := h i hi
  exact ⟨a, cp, b, off, h1, h2, h3.below hb, h4⟩

/-- IsQuorum answers: every Members from k on has its quorum. -/
def IsqPost (w : World) (c : Nat) (F : Nat → Int) (q : Int) (N : Nat → Nat) (f : Nat → Nat → Int) (size : Int) (l : List Int) (e : Ending) (w' : World) : Prop :=
  (∃ k : Nat, k + 1 ≤ c ∧ F k ≤ max q 1 ∧ (∀ l, k + 1 ≤ l → l < c → max q 1 < F l) ∧ ∃ y : Bool, e = .returned (.bool y) ∧ (y = true ↔ ∀ i, k ≤ i → i < c → quorum (f i) (N i) size l = true)) ∧ Below w.heap.size w w'

theorem ret_same {a b : Bool} (h : a = b) : Ending.returned (.bool a) = .returned (.bool b) := by rw [h]

set_option maxHeartbeats 2000000 in
theorem isq_any (R G c cap : Nat) (A F : Nat → Int) (V : Nat → Value) (N : Nat → Nat) (f : Nat → Nat → Int) (arch size : Int) (Bs len cb b' off' : Nat) (a' : Option Addr) (g : Nat → Int) (w : World) (hn : c ≤ 4) (hcap : c ≤ cap) (hcap2 : cap ≤ 4) (hc : 0 < c) (hm : w.cell? ⟨R, 10, none⟩ = some (.slice (some ⟨G, 0, none⟩) c cap)) (ha : w.cell? ⟨R, 3, none⟩ = some (.int .u64 arch)) (hs : w.cell? ⟨R, 1, none⟩ = some (.int .i64 size)) (h0 : 0 ≤ arch) (h1 : arch ≤ 18446744073709551615)
    (h : Mems w G c A F V) (hmono : ∀ i j, i ≤ j → j < c → F i ≤ F j) (hF : F 0 ≤ 1) (hV : Nodes w c V N f) (hl : len ≤ 1048576) (hBs : w.cell? ⟨Bs, 0, none⟩ = some (.slice a' len cb)) (hg : Row w a' len b' off' g) :
    Calls Try.prog 13 #[.pointer (some ⟨R, 0, none⟩), .func (.func 18) #[] #[.pointer (some ⟨Bs, 0, none⟩)]] w fun e w' => IsqPost w c F (first arch) N f size (upto g len) e w' := by
  go_enter Try.func13, Try.ntmps13
  go_wp2_with fail
  refine (cur_any R G c cap A F V arch _ (by omega) hcap (by omega) hc hm ha h0 h1 h hmono hF).mono ?_
  rintro e w1 ⟨⟨k, hk, hlo, hhi, rfl⟩, hb1⟩
  go_wp2_with fail
  go_loopw [6, 10] (fun _ i wr => ∃ j : Nat, k + j ≤ c ∧ i = .int .i64 j ∧ (∀ l, k ≤ l → l < k + j → quorum (f l) (N l) size (upto g len) = true) ∧ Below w.heap.size w wr) (fun _ i _ => c - k - (intOf i).toNat)
  case atStart => exact ⟨0, by omega, rfl, fun l hl1 hl2 => absurd hl2 (by omega), hb1⟩
  case round =>
    obtain ⟨j, hj, rfl, hall, hbr⟩ := hrel
    have h' := h.below hbr
    by_cases hlt : k + j < c
    · have g0 := h'.c0 (k + j) hlt
      have g1 := h'.c1 (k + j) hlt
      have g2 := h'.c2 (k + j) hlt
      rw [Nat.add_mul] at g0 g1 g2
      have hj2 : (j : Int) < ((c - k : Nat) : Int) := by omega
      have hsr := (hbr.cell (p := ⟨R, 1, none⟩) (World.block_lt_of_cell? _ _ hs)).trans hs
      obtain ⟨a, cp, b, off, hVj, hNj, hRj, hIj⟩ := (hV.below hbr) (k + j) hlt
      rw [hVj] at g2
      obtain ⟨o, ho⟩ : ∃ o : Obj, o = .cells #[.int .u64 (A (k + j)), .int .u64 (F (k + j)), .slice a (N (k + j)) cp] 34 := ⟨_, rfl⟩
      have hal : Below wr.heap.size wr (wr.alloc o).drew := ((Below.refl _ _).alloc (Nat.le_refl _) _).drew
      have hwa : Below w.heap.size w (wr.alloc o).drew := hbr.trans (hal.mono hbr.size)
      have hsn : (wr.alloc o).drew.cell? ⟨R, 1, none⟩ = some (.int .i64 size) := (hwa.cell (p := ⟨R, 1, none⟩) (World.block_lt_of_cell? _ _ hs)).trans hs
      have hsn0 : (wr.alloc o).cell? ⟨R, 1, none⟩ = some (.int .i64 size) := hsn
      have hBn := (hwa.cell (p := ⟨Bs, 0, none⟩) (World.block_lt_of_cell? _ _ hBs)).trans hBs
      have hgn := hg.below hwa
      have hRn := hRj.below hal
      have hcn : (wr.alloc o).cell? ⟨wr.heap.size, 2, none⟩ = some (.slice a (N (k + j)) cp) := by rw [ho]; simp
      subst ho
      clear h h'
      go_wp2_with fail
      go_region_held3 (fun w' => w'.cell? ⟨R, 1, none⟩ = some (.int .i64 size) ∧ w'.cell? ⟨wr.heap.size, 2, none⟩ = some (.slice a (N (k + j)) cp)) (go_keep)
        ((go_at_call 17; refine ((callsIn_wide (n := 5)).1 (Quorum.quorumOf_in a (N (k + j)) cp b off (f (k + j)) size Bs len cb b' off' a' g _ hNj hl hRn hIj hBn hgn)).mono ?_; rintro e w4 ⟨rfl, hb4⟩; have f0 := (hb4.cell (p := ⟨R, 1, none⟩) (World.block_lt_of_cell? _ _ hsn)).trans hsn; have f1 := (hb4.cell (p := ⟨wr.heap.size, 2, none⟩) (World.block_lt_of_cell? _ _ hcn)).trans hcn))
      have hw4 : Below w.heap.size w w4 := hwa.trans (hb4.mono hwa.size)
      cases hy : quorum (f (k + j)) (N (k + j)) size (upto g len)
      · clear g0 g1 g2 hcn hRn hgn hBn hsn hsn0 f0 f1
        go_wp2_with fail
        go_ret
        exact ⟨⟨k, hk, hlo, hhi, false, rfl, ⟨fun e => by simp at e, fun hx => by rw [hx (k + j) (by omega) hlt] at hy; exact hy.symm⟩⟩, hw4⟩
      · clear g0 g1 g2 hcn hRn hgn hBn hsn hsn0 f0 f1
        go_wp2_with fail
        go_roundw
        case rel =>
          refine ⟨j + 1, by omega, by go_num, fun l hl1 hl2 => ?_, hw4⟩
          by_cases e : l = k + j
          · subst e; exact hy
          · exact hall l hl1 (by omega)
        case measure => simp [intOf]; omega
    · have hj2 : ¬ (j : Int) < ((c - k : Nat) : Int) := by omega
      have hj3 : decide ((j : Int) < ((c - k : Nat) : Int)) = false := decide_eq_false hj2
      clear h h'
      go_wp2_with fail
      go_ret
      exact ⟨⟨k, hk, hlo, hhi, true, rfl, ⟨fun _ i h1 h2 => hall i h1 (by omega), fun _ => rfl⟩⟩, hbr⟩

end Go.Proofs.Qxb6613472a.Cur
