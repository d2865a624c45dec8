/- THE LAW: IsQuorum asks every Members that is not archived. -/
import Derived.Test.Qxb6613472aZz
namespace Go.Proofs.Qxb6613472a.Cur
open Go Go.RowKit Go.Deep Go.WideShapes Go.Proofs.Qxb6613472a.Base Go.Proofs.Qxb6613472a.Plain
set_option linter.unusedVariables false
set_option maxRecDepth 100000

/-- WHAT THE WALK IS TOLD OF A SLICE OF INTEGERS THAT CAME IN. -/
def IsRow (k : IntKind) (w : World) (a : Option Addr) (len cap : Nat) (zs : List Int) : Prop :=
  (a = none ∧ len = 0 ∧ cap = 0 ∧ zs = []) ∨
  ∃ x, a = some x ∧ len ≤ cap ∧ cap ≤ maxLen ∧ zs.length = cap ∧ (∀ i, i < zs.length → w.cell? (x.add i) = some (.int k (zs.getD i 0))) ∧ ∀ n ∈ zs, (Lit.int k n).wf = true

theorem IsRow.row {w : World} {a : Option Addr} {len cap : Nat} {zs : List Int} (h : IsRow .u64 w a len cap zs) :
    ∃ b off, Row w a len b off (fun i => zs.getD i 0) ∧ (a = none → len = 0 ∧ cap = 0) := by
  rcases h with ⟨rfl, rfl, rfl, rfl⟩ | ⟨⟨b, off, spot⟩, rfl, hlc, hm, hz, hcell, hwf⟩
  · exact ⟨0, 0, ⟨fun h => absurd h (by omega), fun i hi => absurd hi (by omega)⟩, fun _ => ⟨rfl, rfl⟩⟩
  · by_cases h0 : len = 0
    · subst h0
      exact ⟨0, 0, ⟨fun h => absurd h (by omega), fun i hi => absurd hi (by omega)⟩, fun h => by cases h⟩
    · have hspot : spot = none := by simpa [Addr.add] using World.cell?_spot (hcell 0 (by omega))
      subst hspot
      exact ⟨b, off, ⟨fun _ => rfl, fun i hi => by rw [← add_plain]; exact hcell i (by omega)⟩, fun h => by cases h⟩

theorem u64_wf {n : Int} (h : (Lit.int .u64 n).wf = true) : 0 ≤ n ∧ n ≤ 18446744073709551615 := by
  have h1 : IntKind.u64.min = 0 := by decide
  have h2 : IntKind.u64.max = 18446744073709551615 := by decide
  simp [Lit.wf, h1, h2] at h
  omega

theorem low_drew (B : Nat) (w : World) (q : Nat) : Below B w (w.drewN q) := ⟨rfl, rfl, rfl, Nat.le_refl _, fun _ _ => rfl⟩

def two {α : Type} (x y : α) : Nat → α
  | 0 => x
  | _ => y

theorem lt_two {i : Nat} (h : i < 2) : i = 0 ∨ i = 1 := by omega

theorem mems_two (w : World) (q x y : Int) (u v : Value) : Mems (w.alloc (.cells #[.int .u64 0, .int .u64 q, u, .int .u64 x, .int .u64 y, v] 34)) w.heap.size 2 (two 0 x) (two q y) (two u v) := by
  refine ⟨fun i hi => ?_, fun i hi => ?_, fun i hi => ?_⟩ <;> rcases lt_two hi with rfl | rfl <;> simp [two]

theorem mems_one (w : World) (q : Int) (u : Value) : Mems (w.alloc (.cells #[.int .u64 0, .int .u64 q, u] 34)) w.heap.size 1 (fun _ => 0) (fun _ => q) (fun _ => u) := by
  refine ⟨fun i hi => ?_, fun i hi => ?_, fun i hi => ?_⟩ <;> obtain rfl : i = 0 := by omega
  all_goals simp

/-- Two Members. -/
theorem repl_two {w wF : World} {R n2 n4 k2 k4 b2 o2 b4 o4 : Nat} {y : Int} {f2 f4 : Nat → Int} {x2 x4 : Option Addr} {x arch size : Int}
    (hb : Below (w.alloc (.cells #[.int .u64 0, .int .u64 1, .slice x2 n2 k2, .int .u64 x, .int .u64 y, .slice x4 n4 k4] 34)).heap.size (w.alloc (.cells #[.int .u64 0, .int .u64 1, .slice x2 n2 k2, .int .u64 x, .int .u64 y, .slice x4 n4 k4] 34)) wF)
    (hm : wF.cell? ⟨R, 10, none⟩ = some (.slice (some ⟨w.heap.size, 0, none⟩) 2 2)) (ha : wF.cell? ⟨R, 3, none⟩ = some (.int .u64 arch)) (hs : wF.cell? ⟨R, 1, none⟩ = some (.int .i64 size)) (h0 : 0 ≤ arch) (h1 : arch ≤ 18446744073709551615)
    (hy : 1 ≤ y) (hn2 : n2 ≤ 1048576) (hn4 : n4 ≤ 1048576) (r2 : Row wF x2 n2 b2 o2 f2) (r4 : Row wF x4 n4 b4 o4 f4) (i2 : Incr n2 f2) (i4 : Incr n4 f4) :
    Repl wF R w.heap.size 2 2 (two 0 x) (two 1 y) (two (.slice x2 n2 k2) (.slice x4 n4 k4)) (two n2 n4) (two f2 f4) arch size := by
  refine ⟨by omega, by omega, by omega, by omega, hm, ha, hs, h0, h1, (mems_two _ _ _ _ _ _).below hb, fun i j hij hj => ?_, Int.le_refl _, fun i hi => ?_⟩
  · rcases lt_two hj with rfl | rfl
    · obtain rfl : i = 0 := by omega
      exact Int.le_refl _
    · rcases lt_two (show i < 2 by omega) with rfl | rfl
      · exact hy
      · exact Int.le_refl _
  · rcases lt_two hi with rfl | rfl
    · exact ⟨x2, k2, b2, o2, rfl, hn2, r2, i2⟩
    · exact ⟨x4, k4, b4, o4, rfl, hn4, r4, i4⟩

/-- One Members. -/
theorem repl_one {w wF : World} {R n2 k2 b2 o2 : Nat} {f2 : Nat → Int} {x2 : Option Addr} {arch size : Int}
    (hb : Below (w.alloc (.cells #[.int .u64 0, .int .u64 1, .slice x2 n2 k2] 34)).heap.size (w.alloc (.cells #[.int .u64 0, .int .u64 1, .slice x2 n2 k2] 34)) wF)
    (hm : wF.cell? ⟨R, 10, none⟩ = some (.slice (some ⟨w.heap.size, 0, none⟩) 1 1)) (ha : wF.cell? ⟨R, 3, none⟩ = some (.int .u64 arch)) (hs : wF.cell? ⟨R, 1, none⟩ = some (.int .i64 size)) (h0 : 0 ≤ arch) (h1 : arch ≤ 18446744073709551615)
    (hn2 : n2 ≤ 1048576) (r2 : Row wF x2 n2 b2 o2 f2) (i2 : Incr n2 f2) :
    Repl wF R w.heap.size 1 1 (fun _ => 0) (fun _ => 1) (fun _ => .slice x2 n2 k2) (fun _ => n2) (fun _ => f2) arch size :=
  ⟨by omega, by omega, by omega, by omega, hm, ha, hs, h0, h1, (mems_one _ _ _).below hb, fun _ _ _ _ => Int.le_refl _, Int.le_refl _, fun i hi => ⟨x2, k2, b2, o2, rfl, hn2, r2, i2⟩⟩

/-- What IsQuorum answers with two Members. -/
theorem two_answer {k : Nat} {a1 a3 size : Int} {n2 n4 : Nat} {f2 f4 : Nat → Int} {l : List Int} {y : Bool} (hk : k + 1 ≤ 2) (h3 : 2 ≤ a3) (hlo : two 1 a3 k ≤ max (first a1) 1) (hhi : ∀ l, k + 1 ≤ l → l < 2 → max (first a1) 1 < two 1 a3 l)
    (hy : y = true ↔ ∀ i, k ≤ i → i < 2 → quorum (two f2 f4 i) (two n2 n4 i) size l = true) :
    (first a1 < a3 ∧ y = (quorum f4 n4 size l && quorum f2 n2 size l)) ∨ (¬ first a1 < a3 ∧ y = quorum f4 n4 size l) := by
  rcases lt_two (show k < 2 by omega) with rfl | rfl
  · have h1 := hhi 1 (by omega) (by omega)
    simp only [two] at h1
    refine .inl ⟨by omega, ?_⟩
    rw [Bool.eq_iff_iff, hy, Bool.and_eq_true]
    constructor
    · intro h; exact ⟨h 1 (by omega) (by omega), h 0 (by omega) (by omega)⟩
    · rintro ⟨ha, hb⟩ i _ hi
      rcases lt_two hi with rfl | rfl
      · exact hb
      · exact ha
  · simp only [two] at hlo
    refine .inr ⟨by omega, ?_⟩
    rw [Bool.eq_iff_iff, hy]
    constructor
    · intro h; exact h 1 (by omega) (by omega)
    · intro h i h1 hi
      obtain rfl : i = 1 := by omega
      exact h

end Go.Proofs.Qxb6613472a.Cur

namespace Go.Proofs.Qxb6613472a.Law3
open Go Go.RowKit Go.Deep Go.WideShapes Go.Proofs.Qxb6613472a.Base Go.Proofs.Qxb6613472a.Plain Go.Proofs.Qxb6613472a.Cur
set_option linter.unusedVariables false
set_option maxRecDepth 100000

set_option maxHeartbeats 4000000 in
theorem walk (a0 : Int) (a1 : Int) (a2 : Option Addr) (len2 cap2 : Nat) (z2 : List Int) (a3 : Int) (a4 : Option Addr) (len4 cap4 : Nat) (z4 : List Int) (a5 : Option Addr) (len5 cap5 : Nat) (z5 : List Int) (w : World) (w0 : (Lit.int .i64 a0).wf = true) (w1 : (Lit.int .u64 a1).wf = true) (w2 : IsRow .u64 w a2 len2 cap2 z2) (w3 : (Lit.int .u64 a3).wf = true) (w4 : IsRow .u64 w a4 len4 cap4 z4) (w5 : IsRow .u64 w a5 len5 cap5 z5) :
    Calls Try.prog 3 #[.int .i64 a0, .int .u64 a1, .slice a2 len2 cap2, .int .u64 a3, .slice a4 len4 cap4, .slice a5 len5 cap5] w fun e w' => e = .returned (.bool true) ∧ Below w.heap.size w w' := by
  obtain ⟨b2, off2, hr2, hn2⟩ := w2.row
  obtain ⟨b4, off4, hr4, hn4⟩ := w4.row
  obtain ⟨b5, off5, hr5, hn5⟩ := w5.row
  obtain ⟨l1, m1⟩ := u64_wf w1
  obtain ⟨l3, m3⟩ := u64_wf w3
  generalize (fun i => z2.getD i 0) = f2 at hr2
  generalize (fun i => z4.getD i 0) = f4 at hr4
  generalize (fun i => z5.getD i 0) = f5 at hr5
  clear w0 w1 w2 w3 w4 w5
  go_enter Try.func3, Try.ntmps3
  go_wp2_with fail
  refine (bytes5 a0 a1 a2 len2 cap2 a3 a4 len4 cap4 a5 len5 cap5 w).mono ?_
  rintro e w' ⟨⟨y, rfl⟩, rfl⟩
  cases y with
  | false =>
    go_wp2_with fail
    go_ret
    exact ⟨rfl, Below.refl _ _⟩
  | true =>
  by_cases g1 : (4096 : Int) < (len2 : Int)
  · go_wp2_with fail
    go_ret
    exact ⟨rfl, Below.refl _ _⟩
  by_cases g2 : (4096 : Int) < (len4 : Int)
  · go_wp2_with fail
    go_ret
    exact ⟨rfl, Below.refl _ _⟩
  by_cases g3 : (4096 : Int) < (len5 : Int)
  · go_wp2_with fail
    go_ret
    exact ⟨rfl, Below.refl _ _⟩
  by_cases g4 : a0 < 0
  · go_wp2_with fail
    go_ret
    exact ⟨rfl, Below.refl _ _⟩
  by_cases g5 : a3 < 2
  · go_wp2_with fail
    go_ret
    exact ⟨rfl, Below.refl _ _⟩
  go_wp2_with fail
  refine (increasing_any a2 len2 cap2 b2 off2 f2 _ (by omega) hr2).mono ?_
  rintro e wA ⟨hi2, q, hwA⟩
  have hbA : Below w'.heap.size w' wA := by rw [hwA]; exact low_drew _ _ _
  clear hwA
  rcases hi2 with ⟨rfl, hi2⟩ | rfl
  rotate_left
  · go_wp2_with fail
    go_ret
    exact ⟨rfl, hbA⟩
  go_wp2_with fail
  refine (increasing_any a4 len4 cap4 b4 off4 f4 _ (by omega) (hr4.below hbA)).mono ?_
  rintro e wB ⟨hi4, q, hwB⟩
  have hbB : Below w'.heap.size w' wB := hbA.trans (by rw [hwB]; exact low_drew _ _ _)
  clear hwB
  rcases hi4 with ⟨rfl, hi4⟩ | rfl
  rotate_left
  · go_wp2_with fail
    go_ret
    exact ⟨rfl, hbB⟩
  go_wp2_with fail
  refine (clone_any a2 len2 cap2 b2 off2 f2 _ (by omega) hn2 (hr2.below hbB)).mono ?_
  rintro e wC ⟨x2, c2, rfl, hbC', hR2⟩
  have hbC : Below w'.heap.size w' wC := hbB.trans (hbC'.mono hbB.size)
  go_wp2_with fail
  refine (clone_any a4 len4 cap4 b4 off4 f4 _ (by omega) hn4 (hr4.below hbC)).mono ?_
  rintro e wD ⟨x4, c4, rfl, hbD', hR4⟩
  have hbD : Below w'.heap.size w' wD := hbC.trans (hbD'.mono hbC.size)
  replace hR2 := hR2.below hbD'
  go_wp2_with fail
  refine (clone_any a5 len5 cap5 b5 off5 f5 _ (by omega) hn5 (hr5.below hbD)).mono ?_
  rintro e wE ⟨x5, c5, rfl, hbE', hR5⟩
  have hbE : Below w'.heap.size w' wE := hbD.trans (hbE'.mono hbD.size)
  replace hR2 := hR2.below hbE'
  replace hR4 := hR4.below hbE'
  clear hbA hbB hbC hbD hbC' hbD' hbE' hr2 hr4 hr5
  have hbO : ∀ o, Below wE.heap.size wE (wE.alloc o) := fun o => (Below.refl _ _).alloc (Nat.le_refl _) _
  go_wp2_with fail
  refine (new_any a0 a1 _ 2 2 _).mono ?_
  rintro e wF ⟨R, rfl, hbF', qm, qa, qs⟩
  have hbF : Below wE.heap.size wE wF := (hbO _).trans (hbF'.mono (hbO _).size)
  replace hR2 := hR2.below hbF
  replace hR4 := hR4.below hbF
  replace hR5 := hR5.below hbF
  have hrep := repl_two hbF' qm qa qs l1 m1 (by omega) (by omega) (by omega) hR2 hR4 hi2 hi4
  have hbF0 : Below w'.heap.size w' wF := hbE.trans (hbF.mono hbE.size)
  clear hbO hbF hbF' qm qa qs hbE
  go_wp2_with fail
  refine (zzq_any R wE.heap.size 2 2 _ _ _ _ _ a1 a0 len5 len5 c5 0 x5 f5 _ hrep (by omega) hR5).mono ?_
  rintro e wG ⟨⟨k, hk, hlo, hhi, y, rfl, hy⟩, hbG'⟩
  have hans := two_answer hk (by omega) hlo hhi hy
  have hbG : Below w'.heap.size w' wG := hbF0.trans (hbG'.mono hbF0.size)
  replace hR2 := hR2.below hbG'
  replace hR4 := hR4.below hbG'
  replace hR5 := hR5.below hbG'
  clear hrep hk hlo hhi hy hbG' hbF0
  go_wp2_with fail
  refine (holds_any x4 len4 len4 c4 0 f4 a0 x5 len5 len5 c5 0 f5 _ (by omega) (by omega) hR4 hR5).mono ?_
  rintro e wH ⟨rfl, q, hwH⟩
  have hbH' : Below wG.heap.size wG wH := by rw [hwH]; exact low_drew _ _ _
  have hbH : Below w'.heap.size w' wH := hbG.trans (hbH'.mono hbG.size)
  replace hR2 := hR2.below hbH'
  replace hR5 := hR5.below hbH'
  clear hwH hbG hbH' hR4
  go_wp2_with fail
  refine (first_any a1 _ l1 m1).mono ?_
  rintro e wI ⟨rfl, rfl⟩
  rw [show (if a1 = 18446744073709551615 then a1 else a1 + 1) = first a1 from rfl]
  generalize first a1 = s1 at hans ⊢
  cases hq4 : quorum f4 len4 a0 (upto f5 len5) with
  | false =>
    rw [hq4] at hans
    rcases hans with ⟨hs, rfl⟩ | ⟨hs, rfl⟩
    · rw [Bool.false_and]
      go_wp2_with fail
      go_ret
      exact ⟨rfl, hbH⟩
    · go_wp2_with fail
      go_ret
      exact ⟨rfl, hbH⟩
  | true =>
    rw [hq4] at hans
    rcases hans with ⟨hs, rfl⟩ | ⟨hs, rfl⟩
    · rw [Bool.true_and]
      go_wp2_with fail
      refine (holds_any x2 len2 len2 c2 0 f2 a0 x5 len5 len5 c5 0 f5 _ (by omega) (by omega) hR2 hR5).mono ?_
      rintro e wJ ⟨rfl, q, hwJ⟩
      have hbJ : Below w'.heap.size w' wJ := hbH.trans (by rw [hwJ]; exact low_drew _ _ _)
      clear hwJ
      generalize quorum f2 len2 a0 (upto f5 len5) = y
      cases y
      · go_wp2_with fail
        go_ret
        exact ⟨rfl, hbJ⟩
      · go_wp2_with fail
        go_ret
        exact ⟨rfl, hbJ⟩
    · go_wp2_with fail
      go_ret
      exact ⟨rfl, hbH⟩

end Go.Proofs.Qxb6613472a.Law3
