/- THE WALK OF FnCountOfJoinedCreationsAddsUp. -/
import Derived.Test.Qxb6613399aBase
import Derived.OpenShut
import Derived.WalkSmall
namespace Go.Proofs.Qxb6613399a.Join
open Go.RowKit Go.Deep Go.WideShapes Go.Proofs.Qxb6613399a.Base
set_option linter.unusedVariables false
set_option maxRecDepth 100000

theorem ret_true {b : Bool} (h : b = true) : Ending.returned (.bool b) = .returned (.bool true) := by rw [h]

theorem sums (s : Int) (n m : Nat) (h1 : n ≤ 65536) (h2 : m ≤ 65536) (h0 : 0 ≤ s) (hs : s ≤ 9223372036854775807) :
    wrap64 (wrap64 (s + n) + m) = wrap64 (s + ((n : Int) + m)) ∧ wrap64 (wrap64 (s + ((n : Int) + m)) - s) = (n : Int) + m := by
  unfold wrap64; omega

set_option maxHeartbeats 400000 in
theorem bytes_yes (s : Int) (a b : Option Addr) (la ca lb cb : Nat) (w : World) (h : (la : Int) + (lb : Int) ≤ 1048576) :
    Calls Try.prog 12 #[.int .i64 s, .slice a la ca, .slice b lb cb] w fun e w' => e = .returned (.bool true) ∧ w' = w := by
  have h1 : (la : Int) ≤ 1048576 := by omega
  have h2 : (lb : Int) ≤ 1048576 := by omega
  go_enter Try.func12, Try.ntmps12
  go_wp2
  go_ret
  exact ⟨rfl, rfl⟩

set_option maxHeartbeats 400000 in
theorem bytes_no (s : Int) (a b : Option Addr) (la ca lb cb : Nat) (w : World) (h : (1048576 : Int) < (la : Int) + (lb : Int)) :
    Calls Try.prog 12 #[.int .i64 s, .slice a la ca, .slice b lb cb] w fun e w' => e = .returned (.bool false) ∧ w' = w := by
  by_cases h1 : (1048576 : Int) < (la : Int)
  · go_enter Try.func12, Try.ntmps12
    go_wp2
    go_ret
    exact ⟨rfl, rfl⟩
  · by_cases h2 : (1048576 : Int) < (lb : Int)
    · go_enter Try.func12, Try.ntmps12
      go_wp2
      go_ret
      exact ⟨rfl, rfl⟩
    · go_enter Try.func12, Try.ntmps12
      go_wp2
      go_ret
      exact ⟨rfl, rfl⟩

theorem own_cell {B : Nat} {w wr : World} {a : Option Addr} {n : Nat} (hn : 0 < n) (ho : Own B w a n) (hb : Below w.heap.size w wr) :
    ∃ (x : Nat) (f : Nat → Int), a = some ⟨x, 0, none⟩ ∧ ∀ i, i < n → wr.cell? ⟨x, i, none⟩ = some (.int .i64 (f i)) := by
  obtain ⟨x, f, rfl, hx, hr⟩ := ho hn
  exact ⟨x, f, rfl, fun i hi => by rw [hb.cell (p := ⟨x, i, none⟩) hr.lt]; exact hr.cell hi⟩

set_option maxHeartbeats 1000000 in
theorem walk (a0 : Int) (a1 : Option Addr) (len1 cap1 : Nat) (z1 : List Int) (a2 : Option Addr) (len2 cap2 : Nat) (z2 : List Int) (w : World) (w0 : (Lit.int .i64 a0).wf = true) (w1 : IsRow .i64 w a1 len1 cap1 z1) (w2 : IsRow .i64 w a2 len2 cap2 z2) :
    Calls Try.prog 4 #[.int .i64 a0, .slice a1 len1 cap1, .slice a2 len2 cap2] w fun e w' => e = .returned (.bool true) ∧ Below w.heap.size w w' := by
  have hbd := bounds_i64 w0
  by_cases h20 : (1048576 : Int) < (len1 : Int) + (len2 : Int)
  · go_enter Try.func4, Try.ntmps4
    go_wp2_with fail
    refine (bytes_no _ _ _ _ _ _ _ _ h20).mono ?_
    rintro e w' ⟨rfl, rfl⟩
    go_wp2
    go_ret
    exact ⟨rfl, Below.refl _ _⟩
  have h20' : (len1 : Int) + (len2 : Int) ≤ 1048576 := by omega
  by_cases h16 : (65536 : Int) < (len1 : Int)
  · go_enter Try.func4, Try.ntmps4
    go_wp2_with fail
    refine (bytes_yes _ _ _ _ _ _ _ _ h20').mono ?_
    rintro e w' ⟨rfl, rfl⟩
    go_wp2
    go_ret
    exact ⟨rfl, Below.refl _ _⟩
  by_cases h17 : (65536 : Int) < (len2 : Int)
  · go_enter Try.func4, Try.ntmps4
    go_wp2_with fail
    refine (bytes_yes _ _ _ _ _ _ _ _ h20').mono ?_
    rintro e w' ⟨rfl, rfl⟩
    go_wp2
    go_ret
    exact ⟨rfl, Below.refl _ _⟩
  by_cases hs : a0 < 0
  · go_enter Try.func4, Try.ntmps4
    go_wp2_with fail
    refine (bytes_yes _ _ _ _ _ _ _ _ h20').mono ?_
    rintro e w' ⟨rfl, rfl⟩
    go_wp2
    go_ret
    exact ⟨rfl, Below.refl _ _⟩
  have hl : len1 ≤ 65536 := by omega
  have hl2 : len2 ≤ 65536 := by omega
  obtain ⟨i0, hi, hz0, hz1, hz2⟩ := info_parts info2
  go_enter Try.func4, Try.ntmps4
  go_wp2_with fail
  refine (bytes_yes _ _ _ _ _ _ _ _ h20').mono ?_
  rintro e w' ⟨rfl, rfl⟩
  go_wp2_with fail
  refine (clone_any a1 len1 cap1 z1 _ hl w1).mono ?_
  rintro e wa ⟨a', rfl, hb, ho⟩
  have w2' : IsRow .i64 wa a2 len2 cap2 z2 := w2.below hb
  clear w2
  go_wp2_with fail
  refine (clone_any a2 len2 cap2 z2 _ hl2 w2').mono ?_
  rintro e wb ⟨b', rfl, hb2, ho2⟩
  have hb3 : Below w'.heap.size w' wb := hb.trans (hb2.mono hb.size)
  have ho' : Own 0 wb a' len1 := ho.below hb2
  have ho2' : Own 0 wb b' len2 := ho2.zero
  clear ho ho2 hb hb2 w1 w2'
  go_wp2_with (at_make; refine wpList_make_own _ rfl _ _ 22 rfl wb.heap.size 2 i0 (.int .i64 0) 1 Try.underlying22 hi hz0 hz1 _ _ _ (len1 + len2) rfl rfl (by omega) (by rw [hz2]; omega) (by unfold maxLen; omega) (Nat.le_refl _) ?_)
  intro wm hown hgr
  have hbm : Below wb.heap.size wb wm := (Below.refl _ _).grown hgr (Nat.le_refl _) (by intro k hk; cases hk)
  clear hgr
  go_wp2_with fail
  go_loopw [7, 8] (fun v i wr => ∃ (k : Nat) (xs : List Value), k ≤ len1 ∧ i = .int .i64 k ∧ v = .slice (some ⟨wb.heap.size, 0, none⟩) k (len1 + len2) ∧ wr.ownsRow wb.heap.size 2 1 (.slice (some ⟨wb.heap.size, 0, none⟩) k (len1 + len2)) k xs ∧ Below wb.heap.size wb wr)
    (fun _ i _ => len1 - (intOf i).toNat)
  case atStart => exact ⟨0, [], Nat.zero_le _, rfl, rfl, hown, hbm⟩
  case round =>
    obtain ⟨k, xs, hk, rfl, rfl, hown1, hb1⟩ := hrel
    clear hown hbm
    by_cases hlt : k < len1
    · obtain ⟨x, f, ha', hcl⟩ := own_cell (by omega) ho' hb1
      have hc := hcl k hlt
      clear hcl
      rw [ha']
      go_wp2_with (at_builtin; refine wpList_append_fits _ rfl _ _ 22 rfl wb.heap.size 2 i0 1 Try.underlying22 hi hz1 wb.heap.size k (len1 + len2) xs rfl (hown1.alloc _) ⟨wr.heap.size, 0, none⟩ 1 1 [.int .i64 (f k)] rfl rfl (cell_one_new _ _ _) (ints_oneCell .i64 [f k]) (by omega) ?_)
      intro wn hown2 hgr2
      have hb2 : Below wb.heap.size wb wn := (hb1.alloc hb1.size _).grown hgr2 (by have := hb1.size; simp; omega) (by intro j hj; cases hj; exact Nat.le_refl _)
      clear hgr2 hown1 hb1 hc
      go_wp2_with fail
      go_roundw
      case rel => exact ⟨k + 1, _, by omega, by go_num, rfl, hown2, hb2⟩
      case measure => simp [intOf]; omega
    · have hkl : k = len1 := by omega
      subst hkl
      clear hlt ho'
      go_wp2_with fail
      go_loopw [7, 9] (fun v i wr => ∃ (j : Nat) (xs : List Value), j ≤ len2 ∧ i = .int .i64 j ∧ v = .slice (some ⟨wb.heap.size, 0, none⟩) (k + j) (k + len2) ∧ wr.ownsRow wb.heap.size 2 1 (.slice (some ⟨wb.heap.size, 0, none⟩) (k + j) (k + len2)) (k + j) xs ∧ Below wb.heap.size wb wr)
        (fun _ i _ => len2 - (intOf i).toNat)
      case atStart => exact ⟨0, xs, Nat.zero_le _, rfl, rfl, hown1, hb1⟩
      case round =>
        clear hown1 hb1 xs
        obtain ⟨j, xs, hj, rfl, rfl, hown1, hb1⟩ := hrel
        by_cases hlt : j < len2
        · obtain ⟨x, f, ha', hcl⟩ := own_cell (by omega) ho2' hb1
          have hc := hcl j hlt
          clear hcl
          rw [ha']
          go_wp2_with (at_builtin; refine wpList_append_fits _ rfl _ _ 22 rfl wb.heap.size 2 i0 1 Try.underlying22 hi hz1 wb.heap.size (k + j) (k + len2) xs rfl (hown1.alloc _) ⟨wr.heap.size, 0, none⟩ 1 1 [.int .i64 (f j)] rfl rfl (cell_one_new _ _ _) (ints_oneCell .i64 [f j]) (by omega) ?_)
          intro wn hown2 hgr2
          have hb2 : Below wb.heap.size wb wn := (hb1.alloc hb1.size _).grown hgr2 (by have := hb1.size; simp; omega) (by intro j hj; cases hj; exact Nat.le_refl _)
          clear hgr2 hown1 hb1 hc
          go_wp2_with fail
          go_roundw
          case rel => exact ⟨j + 1, _, by omega, by go_num, rfl, hown2, hb2⟩
          case measure => simp [intOf]; omega
        · have hkl : j = len2 := by omega
          subst hkl
          have hbz : Below w'.heap.size w' wr := hb3.trans (hb1.mono hb3.size)
          clear hlt ho2' hown1 hb1 hb3 hj hk
          obtain ⟨hsum1, hsum2⟩ := sums a0 k j hl hl2 (by omega) (by omega)
          have hwj : wrap64 (0 + (j : Int)) = j := by unfold wrap64; omega
          have HS1 : Hid _ := hsum1
          have HS2 : Hid _ := hsum2
          have HWJ : Hid _ := hwj
          clear hsum1 hsum2 hwj
          go_wp2_with fail
          refine (new_any _ _ _ _ _).mono ?_
          rintro e wc ⟨rfl, rfl⟩
          go_wp2_with fail
          refine (zzcount_any _ a0 a' k k _ (by go_simp) (by go_simp)).mono ?_
          rintro e wc ⟨rfl, n, rfl⟩
          go_wp2_with fail
          refine (new_any _ _ _ _ _).mono ?_
          rintro e wc ⟨rfl, rfl⟩
          go_wp2_with fail
          refine (zzcount_any _ 0 b' j j _ (by go_simp) (by go_simp)).mono ?_
          rintro e wc ⟨rfl, n2, rfl⟩
          rw [HWJ.out]
          go_wp2_with fail
          refine (new_any _ _ _ _ _).mono ?_
          rintro e wc ⟨rfl, rfl⟩
          go_wp2_with fail
          refine (zzcount_any _ a0 (some ⟨wb.heap.size, 0, none⟩) (k + j) (k + j) _ (by go_simp) (by go_simp)).mono ?_
          rintro e wc ⟨rfl, n3, rfl⟩
          have hsum1 := HS1.out
          have hsum2 := HS2.out
          go_wp2
          go_ret
          refine ⟨rfl, ?_⟩
          have h1 := below_drewN (hbz.alloc hbz.size (.cells #[.pointer none, .bool false, .int .i64 a0, .slice a' k k] 48)) n
          have h2 := below_drewN (h1.alloc h1.size (.cells #[.pointer none, .bool false, .int .i64 0, .slice b' j j] 48)) n2
          have h3 := below_drewN (h2.alloc h2.size (.cells #[.pointer none, .bool false, .int .i64 a0, .slice (some ⟨wb.heap.size, 0, none⟩) (k + j) (k + j)] 48)) n3
          exact h3

end Go.Proofs.Qxb6613399a.Join
