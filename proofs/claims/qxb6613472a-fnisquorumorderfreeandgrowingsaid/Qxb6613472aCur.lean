/- The members' list: which Members are current. -/
import Derived.Test.Qxb6613472aQuorum
import Derived.Deep.RegionHeld3
namespace Go.Proofs.Qxb6613472a.Cur
open Go Go.RowKit Go.Deep Go.WideShapes Go.Proofs.Qxb6613472a.Base Go.Proofs.Qxb6613472a.Plain
set_option linter.unusedVariables false
set_option maxRecDepth 100000

/-- A Members, as a value. -/
def mem (at_ from_ : Int) (nodes : Value) : Value := .agg #[.int .u64 at_, .int .u64 from_, nodes]

/-- What the comparison answers. -/
def cmpOf (x q : Int) : Int := if x ≤ q then -1 else 1

theorem cmp_any (x y q : Int) (v : Value) (w : World) :
    Calls Try.prog 26 #[mem x y v, .int .u64 q] w fun e w' => e = .returned (.int .i64 (cmpOf y q)) ∧ Below w.heap.size w w' := by
  unfold cmpOf mem
  by_cases h : y ≤ q
  · rw [if_pos h]
    go_enter Try.func26, Try.ntmps26
    go_wp2
    go_ret
    exact ⟨rfl, (Below.refl _ _).alloc (Nat.le_refl _) _⟩
  · rw [if_neg h]
    go_enter Try.func26, Try.ntmps26
    go_wp2
    go_ret
    exact ⟨rfl, (Below.refl _ _).alloc (Nat.le_refl _) _⟩

/-- c Members in block G: three cells each. -/
structure Mems (w : World) (G c : Nat) (A F : Nat → Int) (V : Nat → Value) : Prop where
  c0 : ∀ i, i < c → w.cell? ⟨G, i * 3, none⟩ = some (.int .u64 (A i))
  c1 : ∀ i, i < c → w.cell? ⟨G, i * 3 + 1, none⟩ = some (.int .u64 (F i))
  c2 : ∀ i, i < c → w.cell? ⟨G, i * 3 + 2, none⟩ = some (V i)

theorem Mems.below {w w' : World} {G c : Nat} {A F : Nat → Int} {V : Nat → Value} (h : Mems w G c A F V) (hb : Below w.heap.size w w') : Mems w' G c A F V :=
  ⟨fun i hi => (hb.cell (p := ⟨G, i * 3, none⟩) (World.block_lt_of_cell? _ _ (h.c0 i hi))).trans (h.c0 i hi), fun i hi => (hb.cell (p := ⟨G, i * 3 + 1, none⟩) (World.block_lt_of_cell? _ _ (h.c1 i hi))).trans (h.c1 i hi), fun i hi => (hb.cell (p := ⟨G, i * 3 + 2, none⟩) (World.block_lt_of_cell? _ _ (h.c2 i hi))).trans (h.c2 i hi)⟩

/-- The first Members that begins later than q. -/
def BsfPost (w : World) (c : Nat) (F : Nat → Int) (q : Int) (e : Ending) (w' : World) : Prop :=
  (∃ (k : Nat) (y : Bool), k ≤ c ∧ (∀ l, l < k → F l ≤ q) ∧ (∀ l, k ≤ l → l < c → q < F l) ∧ e = .returned (.tuple #[.int .i64 k, .bool y])) ∧ Below w.heap.size w w'

set_option maxHeartbeats 2000000 in
theorem bsf_any (G c cap : Nat) (A F : Nat → Int) (V : Nat → Value) (q : Int) (w : World) (hn : c ≤ 1048576) (h : Mems w G c A F V) (hmono : ∀ i j, i ≤ j → j < c → F i ≤ F j) :
    Calls Try.prog 25 #[.slice (some ⟨G, 0, none⟩) c cap, .int .u64 q, .func (.func 26) #[] #[]] w fun e w' => BsfPost w c F q e w' := by
  go_enter Try.func25, Try.ntmps25
  go_wp2_with fail
  go_loopw [9, 10, 11] (fun i j _ wr => ∃ lo hi : Nat, lo ≤ hi ∧ hi ≤ c ∧ i = .int .i64 lo ∧ j = .int .i64 hi ∧ (∀ l, l < lo → F l ≤ q) ∧ (∀ l, hi ≤ l → l < c → q < F l) ∧ Below w.heap.size w wr) (fun i j _ _ => (intOf j).toNat - (intOf i).toNat)
  case atStart => exact ⟨0, c, Nat.zero_le _, Nat.le_refl _, rfl, rfl, fun l hl => absurd hl (Nat.not_lt_zero _), fun l h1 h2 => absurd h1 (by omega), Below.refl _ _⟩
  case round =>
    obtain ⟨lo, hi, h1, h2, rfl, rfl, hlo, hhi, hb⟩ := hrel
    have h' := h.below hb
    by_cases hlt : lo < hi
    · obtain ⟨m, hm⟩ : ∃ m, m = (lo + hi) / 2 := ⟨_, rfl⟩
      have g0 := h'.c0 m (by omega)
      have g1 := h'.c1 m (by omega)
      have g2 := h'.c2 m (by omega)
      have hm2 : ((lo : Int) + (hi : Int)) / 2 = (m : Int) := by omega
      have hm3 : lo ≤ m := by omega
      have hm4 : m < hi := by omega
      have hm5 : (m : Int) < (c : Int) := by omega
      clear h h' hm
      go_wp2_with fail
      refine (cmp_any _ _ _ _ _).mono ?_
      rintro e w' ⟨rfl, hb'⟩
      have hb2 : Below w.heap.size w w' := hb.trans (hb'.mono hb.size)
      by_cases hq : F m ≤ q
      · have hc : cmpOf (F m) q = -1 := if_pos hq
        go_wp2_with fail
        go_roundw
        case rel => exact ⟨m + 1, hi, by omega, h2, by go_num, rfl, fun l hl => Int.le_trans (hmono l m (by omega) (by omega)) hq, hhi, hb2⟩
        case measure => simp [intOf]; omega
      · have hc : cmpOf (F m) q = 1 := if_neg hq
        go_wp2_with fail
        go_roundw
        case rel => exact ⟨lo, m, by omega, by omega, rfl, rfl, hlo, fun l hl1 hl2 => Int.lt_of_lt_of_le (by omega) (hmono m l hl1 hl2), hb2⟩
        case measure => simp [intOf]; omega
    · have e : lo = hi := by omega
      subst e
      clear h1 hlt
      by_cases hn2 : lo < c
      · have g0 := h'.c0 lo hn2
        have g1 := h'.c1 lo hn2
        have g2 := h'.c2 lo hn2
        have hc2 : (lo : Int) < (c : Int) := by omega
        have hc : cmpOf (F lo) q = 1 := if_neg (by have := hhi lo (Nat.le_refl _) hn2; omega)
        clear h h'
        go_wp2_with fail
        refine (cmp_any _ _ _ _ _).mono ?_
        rintro e w' ⟨rfl, hb'⟩
        have hb2 : Below w.heap.size w w' := hb.trans (hb'.mono hb.size)
        rw [hc]
        go_wp2_with fail
        go_ret2
        exact ⟨⟨lo, _, h2, hlo, hhi, rfl⟩, hb2⟩
      · have g2 : decide ((lo : Int) < (c : Int)) = false := decide_eq_false (by omega)
        clear h h'
        go_wp2
        go_ret2
        exact ⟨⟨lo, _, h2, hlo, hhi, rfl⟩, hb⟩

/-- The index of the Members that stands at slot q. -/
def IdxPost (w : World) (c : Nat) (F : Nat → Int) (q : Int) (e : Ending) (w' : World) : Prop :=
  (∃ k : Nat, k ≤ c ∧ (∀ l, l < k → F l ≤ max q 1) ∧ (∀ l, k ≤ l → l < c → max q 1 < F l) ∧ e = .returned (.int .i64 ((k : Int) - 1))) ∧ Below w.heap.size w w'

set_option maxHeartbeats 2000000 in
theorem idx_any (R G c cap : Nat) (A F : Nat → Int) (V : Nat → Value) (q : Int) (w : World) (hn : c ≤ 1048576) (hm : w.cell? ⟨R, 10, none⟩ = some (.slice (some ⟨G, 0, none⟩) c cap)) (h : Mems w G c A F V) (hmono : ∀ i j, i ≤ j → j < c → F i ≤ F j) :
    Calls Try.prog 22 #[.pointer (some ⟨R, 0, none⟩), .int .u64 q] w fun e w' => IdxPost w c F q e w' := by
  by_cases hq : q < 1
  · have e : max q 1 = 1 := by omega
    unfold IdxPost
    rw [e]
    go_enter Try.func22, Try.ntmps22
    go_wp2_with fail
    refine (bsf_any G c cap A F V 1 _ hn h hmono).mono ?_
    rintro e w' ⟨⟨k, y, hk, hlo, hhi, rfl⟩, hb⟩
    have hk' : (k : Int) ≤ 1048576 := by omega
    go_wp2_with fail
    go_ret
    exact ⟨⟨k, hk, hlo, hhi, rfl⟩, hb⟩
  · have e : max q 1 = q := by omega
    unfold IdxPost
    rw [e]
    go_enter Try.func22, Try.ntmps22
    go_wp2_with fail
    refine (bsf_any G c cap A F V q _ hn h hmono).mono ?_
    rintro e w' ⟨⟨k, y, hk, hlo, hhi, rfl⟩, hb⟩
    have hk' : (k : Int) ≤ 1048576 := by omega
    go_wp2_with fail
    go_ret
    exact ⟨⟨k, hk, hlo, hhi, rfl⟩, hb⟩

end Go.Proofs.Qxb6613472a.Cur
