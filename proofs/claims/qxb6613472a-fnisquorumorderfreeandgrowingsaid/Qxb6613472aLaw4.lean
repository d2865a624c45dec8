/- THE LAW: IsQuorum does not look at the nodes' order, and more nodes never take a quorum away. -/
import Derived.Test.Qxb6613472aTurn
import Derived.Lib.AppendZeros
namespace Go.Proofs.Qxb6613472a.Law4
open Go Go.RowKit Go.Deep Go.WideShapes Go.Proofs.Qxb6613472a.Base Go.Proofs.Qxb6613472a.Plain Go.Proofs.Qxb6613472a.Cur
set_option linter.unusedVariables false
set_option maxRecDepth 100000

/-- What IsQuorum answers with one Members. -/
theorem one_answer {k n : Nat} {size : Int} {f : Nat → Int} {l : List Int} {y : Bool} (hk : k + 1 ≤ 1) (hy : y = true ↔ ∀ i, k ≤ i → i < 1 → quorum f n size l = true) : y = quorum f n size l := by
  obtain rfl : k = 0 := by omega
  rw [Bool.eq_iff_iff, hy]
  exact ⟨fun h => h 0 (by omega) (by omega), fun h _ _ _ => h⟩

theorem quorum_sub {f : Nat → Int} {n : Nat} {size : Int} {l m : List Int} (h : ∀ x, x ∈ l → x ∈ m) (hq : quorum f n size l = true) : quorum f n size m = true := by
  unfold quorum at *
  have := hits_sub (f := f) (n := n) h
  simp only [decide_eq_true_eq] at *
  omega

theorem quorum_same {f : Nat → Int} {n : Nat} {size : Int} {l m : List Int} (h : ∀ x, x ∈ l ↔ x ∈ m) : quorum f n size l = quorum f n size m := by
  unfold quorum; rw [hits_same h]

theorem upto_mem {g : Nat → Int} {k n : Nat} (hk : k ≤ n) (x : Int) (h : x ∈ upto g k) : x ∈ upto g n := by
  obtain ⟨i, hi, e⟩ := mem_upto.1 h
  exact mem_upto.2 ⟨i, by omega, e⟩

set_option maxHeartbeats 4000000 in
theorem walk (a0 : Int) (a1 : Option Addr) (len1 cap1 : Nat) (z1 : List Int) (a2 : Option Addr) (len2 cap2 : Nat) (z2 : List Int) (a3 : Int) (w : World) (w0 : (Lit.int .i64 a0).wf = true) (w1 : IsRow .u64 w a1 len1 cap1 z1) (w2 : IsRow .u64 w a2 len2 cap2 z2) (w3 : (Lit.int .i64 a3).wf = true) :
    Calls Try.prog 4 #[.int .i64 a0, .slice a1 len1 cap1, .slice a2 len2 cap2, .int .i64 a3] w fun e w' => e = .returned (.bool true) ∧ Below w.heap.size w w' := by
  obtain ⟨b1, off1, hr1, hn1⟩ := w1.row
  obtain ⟨b2, off2, hr2, hn2⟩ := w2.row
  generalize (fun i => z1.getD i 0) = f at hr1
  generalize (fun i => z2.getD i 0) = g at hr2
  clear w0 w1 w2 w3
  go_enter Try.func4, Try.ntmps4
  go_wp2_with fail
  refine (bytes12 a0 a1 len1 cap1 a2 len2 cap2 a3 w).mono ?_
  rintro e w' ⟨⟨y, rfl⟩, rfl⟩
  cases y with
  | false =>
    go_wp2_with fail
    go_ret
    exact ⟨rfl, Below.refl _ _⟩
  | true =>
  by_cases g1 : (4096 : Int) < (len1 : Int)
  · go_wp2_with fail
    go_ret
    exact ⟨rfl, Below.refl _ _⟩
  by_cases g2 : (4096 : Int) < (len2 : Int)
  · go_wp2_with fail
    go_ret
    exact ⟨rfl, Below.refl _ _⟩
  by_cases g3 : a0 < 0
  · go_wp2_with fail
    go_ret
    exact ⟨rfl, Below.refl _ _⟩
  by_cases g4 : a3 < 0
  · go_wp2_with fail
    go_ret
    exact ⟨rfl, Below.refl _ _⟩
  by_cases g5 : (len2 : Int) < a3
  · go_wp2_with fail
    go_ret
    exact ⟨rfl, Below.refl _ _⟩
  obtain ⟨k, rfl⟩ : ∃ k : Nat, a3 = k := ⟨a3.toNat, by omega⟩
  have hk : k ≤ len2 := by omega
  clear g4
  go_wp2_with fail
  refine (increasing_any a1 len1 cap1 b1 off1 f _ (by omega) hr1).mono ?_
  rintro e wA ⟨hi1, q, hwA⟩
  have hbA : Below w'.heap.size w' wA := by rw [hwA]; exact low_drew _ _ _
  clear hwA
  rcases hi1 with ⟨rfl, hi1⟩ | rfl
  rotate_left
  · go_wp2_with fail
    go_ret
    exact ⟨rfl, hbA⟩
  go_wp2_with fail
  refine (clone_any a1 len1 cap1 b1 off1 f _ (by omega) hn1 (hr1.below hbA)).mono ?_
  rintro e wB ⟨x1, c1, rfl, hbB', hR1⟩
  have hbB : Below w'.heap.size w' wB := hbA.trans (hbB'.mono hbA.size)
  go_wp2_with fail
  refine (clone_any a2 len2 cap2 b2 off2 g _ (by omega) hn2 (hr2.below hbB)).mono ?_
  rintro e wC ⟨x2, c2, rfl, hbC', hR2⟩
  have hbC : Below w'.heap.size w' wC := hbB.trans (hbC'.mono hbB.size)
  replace hR1 := hR1.below hbC'
  clear hbA hbB hbB' hbC' hr1 hr2
  have hbO : ∀ o, Below wC.heap.size wC (wC.alloc o) := fun o => (Below.refl _ _).alloc (Nat.le_refl _) _
  go_wp2_with fail
  refine (new_any a0 0 _ 1 1 _).mono ?_
  rintro e wD ⟨R, rfl, hbD', qm, qa, qs⟩
  have hbD : Below wC.heap.size wC wD := (hbO _).trans (hbD'.mono (hbO _).size)
  replace hR1 := hR1.below hbD
  replace hR2 := hR2.below hbD
  have hrep := repl_one hbD' qm qa qs (by omega) (by omega) (by omega) hR1 hi1
  have hbD0 : Below w'.heap.size w' wD := hbC.trans (hbD.mono hbC.size)
  clear hbO hbD hbD' qm qa qs hbC
  have hmk := make_room len2 (by omega) wD
  obtain ⟨y1, hsl, hy1⟩ := sub_from x2 len2 k hk
  obtain ⟨y2, hsh, hy2⟩ := sub_upto x2 len2 k hk
  have hroom : Room (wD.alloc (.cells (madeCells #[.int .u64 0] len2) 22)) wD.heap.size len2 := fun j hj => by
    have hr := World.rowIs_made wD (.int .u64 0) len2 22
    exact ⟨by rw [hr.cell hj]; rfl, hr.frozen j⟩
  have hbE : Below wD.heap.size wD (wD.alloc (.cells (madeCells #[.int .u64 0] len2) 22)) := (Below.refl _ _).alloc (Nat.le_refl _) _
  have hap1 := fun ty => app_run _ ty wD.heap.size 0 len2 y1 (len2 - k) (len2 - k) c2 k _ (hy1 _ _ _ (hR2.below hbE)) (by omega) hroom
  rw [Nat.zero_add] at hap1
  have hbF := below_setCells hbE (Nat.le_refl _) 0 (vals (fun i => g (k + i)) (len2 - k))
  have hap2 := fun ty => app_run _ ty wD.heap.size (len2 - k) len2 y2 k len2 c2 0 _ (hy2 _ _ _ (hR2.below hbF)) (by omega) (hroom.set (by rw [vals_length]; omega))
  have hbG := below_setCells hbF (Nat.le_refl _) (len2 - k) (vals g k)
  have hRT := turned _ wD.heap.size len2 k g hk hroom
  rw [show len2 - k + k = len2 by omega] at hap2
  generalize (World.setCells _ wD.heap.size (len2 - k) (vals g k)) = wG at hap2 hbG hRT
  generalize (World.setCells _ wD.heap.size 0 (vals (fun i => g (k + i)) (len2 - k))) = wF at hap1 hap2
  generalize (wD.alloc (.cells (madeCells #[.int .u64 0] len2) 22)) = wE at hmk hap1
  go_wp2_with (at_builtin; first | (refine Lib.wpList_append_run _ rfl _ _ 23 23 rfl _ _ rfl rfl _ _ (hap1 _) ?_; clear hap1) | refine Lib.wpList_append_run _ rfl _ _ 23 23 rfl _ _ rfl rfl _ _ (hap2 _) ?_)
  have hrepG := hrep.below hbG
  replace hR1 := hR1.below hbG
  replace hR2 := hR2.below hbG
  have hbG0 : Below w'.heap.size w' wG := hbD0.trans (hbG.mono hbD0.size)
  clear hap2 hmk hsl hrep hbG hroom hbE hbF hy1 hbD0
  refine (zzq_any R _ 1 1 _ _ _ _ _ 0 a0 len2 len2 c2 0 x2 g _ hrepG (by omega) hR2).mono ?_
  rintro e wH ⟨⟨k1, hk1, _, _, y, rfl, hy⟩, hbH'⟩
  obtain rfl := one_answer hk1 hy
  have hrepH := hrepG.below hbH'
  have hbH : Below w'.heap.size w' wH := hbG0.trans (hbH'.mono hbG0.size)
  replace hR1 := hR1.below hbH'
  replace hR2 := hR2.below hbH'
  replace hRT := hRT.below hbH'
  clear hy hk1 hrepG hbH' hbG0
  go_wp2_with fail
  refine (zzq_any R _ 1 1 _ _ _ _ _ 0 a0 k len2 c2 0 y2 g _ hrepH (by omega) (hy2 _ _ _ hR2)).mono ?_
  rintro e wI ⟨⟨k1, hk1, _, _, y, rfl, hy⟩, hbI'⟩
  obtain rfl := one_answer hk1 hy
  have hrepI := hrepH.below hbI'
  have hbI : Below w'.heap.size w' wI := hbH.trans (hbI'.mono hbH.size)
  replace hR1 := hR1.below hbI'
  replace hR2 := hR2.below hbI'
  replace hRT := hRT.below hbI'
  clear hy hk1 hrepH hbI' hbH hsh hy2
  go_wp2_with fail
  refine (zzq_any R _ 1 1 _ _ _ _ _ 0 a0 len2 len2 wD.heap.size 0 _ (turn g len2 k) _ hrepI (by omega) hRT).mono ?_
  rintro e wJ ⟨⟨k1, hk1, _, _, y, rfl, hy⟩, hbJ'⟩
  obtain rfl := one_answer hk1 hy
  have hbJ : Below w'.heap.size w' wJ := hbI.trans (hbJ'.mono hbI.size)
  replace hR1 := hR1.below hbJ'
  replace hR2 := hR2.below hbJ'
  rw [quorum_same (mem_turn hk)]
  have hpart := fun hq => quorum_sub (f := f) (n := len1) (size := a0) (upto_mem (g := g) hk) hq
  clear hy hk1 hrepI hbJ' hbI hRT
  go_wp2_with fail
  refine (holds_any x1 len1 len1 c1 0 f a0 x2 len2 len2 c2 0 g _ (by omega) (by omega) hR1 hR2).mono ?_
  rintro e wK ⟨rfl, q, hwK⟩
  have hbK : Below w'.heap.size w' wK := hbJ.trans (by rw [hwK]; exact low_drew _ _ _)
  clear hwK hbJ hR1 hR2
  generalize quorum f len1 a0 (upto g len2) = Q at hpart ⊢
  generalize quorum f len1 a0 (upto g k) = P at hpart ⊢
  cases Q <;> cases P
  · go_wp2_with fail
    go_ret
    exact ⟨rfl, hbK⟩
  · exact absurd (hpart rfl) (by simp)
  · go_wp2_with fail
    go_ret
    exact ⟨rfl, hbK⟩
  · go_wp2_with fail
    go_ret
    exact ⟨rfl, hbK⟩

end Go.Proofs.Qxb6613472a.Law4
