/- THE TWO LAWS' WALKS. -/
import Derived.Test.Qxb6613472aDoorWalk
namespace Go.Proofs.Qxb6613472aDoor.Laws
open Go.RowKit Go.Lib Go.Proofs.Qxb6613472aDoor.Plain Go.Proofs.Qxb6613472aDoor.Walk
set_option linter.unusedVariables false
set_option maxRecDepth 100000

theorem bs_list (l : List UInt8) : (bs l).data.toList = l := by simp [bs]
theorem bs_inj {a b : List UInt8} (h : bs a = bs b) : a = b := by rw [← bs_list a, ← bs_list b, h]

theorem bs_toList (l : List UInt8) : (bs l).toList = l := by rw [ByteArray.toList_eq, bs_list]
theorem eqD (a b : Nat) : ((bs (decDigits a)).toList == (bs (decDigits b)).toList) = decide (a = b) := by
  rw [bs_toList, bs_toList]
  by_cases h : a = b
  · subst h; simp
  · simp only [h, decide_false]
    rw [beq_eq_false_iff_ne]
    exact fun e => h (dec_inj e)
theorem eqT (a b c d : Nat) : ((bs (txt a b)).toList == (bs (txt c d)).toList) = (decide (a = c) && decide (b = d)) := by
  rw [bs_toList, bs_toList]
  by_cases h : a = c ∧ b = d
  · obtain ⟨rfl, rfl⟩ := h; simp
  · have h2 : (decide (a = c) && decide (b = d)) = false := by
      rw [← Bool.not_eq_true, Bool.and_eq_true, decide_eq_true_iff, decide_eq_true_iff]; exact h
    rw [h2, beq_eq_false_iff_ne]
    exact fun e => h (txt_inj e)
theorem eqI (a b : Nat) : ((a : Int) == (b : Int)) = decide (a = b) := by
  by_cases h : a = b
  · subst h; simp
  · simp only [h, decide_false]
    rw [beq_eq_false_iff_ne]; omega

/-- String's contract, cut at its dot. -/
theorem cut_txt (r n : Nat) (hr : r < 18446744073709551616) (hn : n < 18446744073709551616) (w : World) :
    Calls Tryd.prog 6 #[.string (bs (txt r n))] w fun e w' => e = .returned (.tuple #[.string (bs (decDigits r)), .string (bs (decDigits n)), .bool true]) ∧ ∃ n, w' = w.drewN n :=
  cut_any _ _ _ (bs_list _) (dec_no_dot r) (dec_no_dot n) (by have := dec_len_le r hr; have := dec_len_le n hn; omega) w

theorem dec_bs (u : Nat) (hu : u < 18446744073709551616) (w : World) :
    Calls Tryd.prog 7 #[.string (bs (decDigits u))] w fun e w' => e = .returned (.tuple #[.int .u64 u, .bool true]) ∧ w' = w := decimal_any u hu _ (bs_list _) w

set_option maxHeartbeats 1000000 in
theorem reads_walk (r1 n1 r2 n2 : Nat) (h1 : r1 < 18446744073709551616) (h2 : n1 < 18446744073709551616) (h3 : r2 < 18446744073709551616) (h4 : n2 < 18446744073709551616) (w : World) (htab : TabIs Tryd.prog w Tryd.tabName .u64 pow10Tab) :
    Calls Tryd.prog 3 #[.int .u64 r1, .int .u64 n1, .int .u64 r2, .int .u64 n2] w fun e w' => e = .returned (.bool true) ∧ Below w.heap.size w w' := by
  have hb0 : Below w.heap.size w ((w.alloc (.cells #[.int .u64 r1, .int .u64 n1] 24)).alloc (.cells #[.int .u64 r2, .int .u64 n2] 24)) := ((Below.refl _ _).alloc (Nat.le_refl _) _).alloc (by simp) _
  have ht0 := tab_below htab hb0
  go_enter Tryd.func3, Tryd.ntmps3
  go_wp2_with fail
  refine (string_any r1 n1 h1 h2 _ ht0).mono ?_
  rintro e wA ⟨rfl, hbA⟩
  have htA := tab_below ht0 hbA
  have a0 : wA.cell? ⟨w.heap.size, 0, none⟩ = some (.int .u64 r1) := by rw [hbA.cell (p := ⟨w.heap.size, 0, none⟩) (by simp; omega)]; simp
  have a1 : wA.cell? ⟨w.heap.size, 1, none⟩ = some (.int .u64 n1) := by rw [hbA.cell (p := ⟨w.heap.size, 1, none⟩) (by simp; omega)]; simp
  have a2 : wA.cell? ⟨w.heap.size + 1, 0, none⟩ = some (.int .u64 r2) := by rw [hbA.cell (p := ⟨w.heap.size + 1, 0, none⟩) (by simp)]; simp
  have a3 : wA.cell? ⟨w.heap.size + 1, 1, none⟩ = some (.int .u64 n2) := by rw [hbA.cell (p := ⟨w.heap.size + 1, 1, none⟩) (by simp)]; simp
  have hwA : Below w.heap.size w wA := hb0.trans (hbA.mono hb0.size)
  clear hbA ht0 hb0
  go_wp2_with fail
  refine (string_any r2 n2 h3 h4 _ htA).mono ?_
  rintro e wB ⟨rfl, hbB⟩
  have b0 := (hbB.cell (p := ⟨w.heap.size, 0, none⟩) (World.block_lt_of_cell? _ _ a0)).trans a0
  have b1 := (hbB.cell (p := ⟨w.heap.size, 1, none⟩) (World.block_lt_of_cell? _ _ a1)).trans a1
  have b2 := (hbB.cell (p := ⟨w.heap.size + 1, 0, none⟩) (World.block_lt_of_cell? _ _ a2)).trans a2
  have b3 := (hbB.cell (p := ⟨w.heap.size + 1, 1, none⟩) (World.block_lt_of_cell? _ _ a3)).trans a3
  have hwB : Below w.heap.size w wB := hwA.trans (hbB.mono hwA.size)
  clear hbB a0 a1 a2 a3 htA hwA
  go_wp2_with fail
  refine (cut_txt r1 n1 h1 h2 _).mono ?_
  rintro e wC ⟨rfl, k1, rfl⟩
  go_wp2_with fail
  refine (cut_txt r2 n2 h3 h4 _).mono ?_
  rintro e wC ⟨rfl, k2, rfl⟩
  go_wp2_with fail
  refine (dec_bs r1 h1 _).mono ?_
  rintro e wC ⟨rfl, rfl⟩
  go_wp2_with fail
  refine (dec_bs n1 h2 _).mono ?_
  rintro e wC ⟨rfl, rfl⟩
  have f1 := eqT r1 n1 r2 n2
  have f2 := eqD r1 r2
  have f3 := eqD n1 n2
  have f4 := eqI r1 r2
  have f5 := eqI n1 n2
  by_cases hr : r1 = r2
  · by_cases hn : n1 = n2
    · simp only [hr, hn, decide_true, Bool.and_self] at f1 f2 f3 f4 f5
      subst hr
      subst hn
      go_wp2
      go_ret
      exact ⟨rfl, below_drewN hwB _⟩
    · simp only [hr, hn, decide_true, decide_false, Bool.and_false] at f1 f2 f3 f4 f5
      subst hr
      clear hn
      go_wp2
      go_ret
      exact ⟨rfl, below_drewN hwB _⟩
  · by_cases hn : n1 = n2
    · simp only [hr, hn, decide_true, decide_false, Bool.false_and] at f1 f2 f3 f4 f5
      subst hn
      clear hr
      go_wp2
      go_ret
      exact ⟨rfl, below_drewN hwB _⟩
    · simp only [hr, hn, decide_false, Bool.and_false] at f1 f2 f3 f4 f5
      clear hr hn
      go_wp2
      go_ret
      exact ⟨rfl, below_drewN hwB _⟩

set_option maxHeartbeats 1000000 in
theorem joins_walk (r n q m : Nat) (h1 : r < 18446744073709551616) (h2 : n < 18446744073709551616) (h3 : q < 18446744073709551616) (h4 : m < 18446744073709551616) (w : World) (htab : TabIs Tryd.prog w Tryd.tabName .u64 pow10Tab) :
    Calls Tryd.prog 4 #[.int .u64 r, .int .u64 n, .int .u64 q, .int .u64 m] w fun e w' => e = .returned (.bool true) ∧ Below w.heap.size w w' := by
  have lr := dec_len_le r h1
  have ln := dec_len_le n h2
  have add1 : ∀ w, (Op.stringOp .add (bs (decDigits r)) ⟨#[46]⟩).run Tryd.prog w = .ok (.string (bs (decDigits r ++ [46]))) w := fun w => run_string_add_lists w (decDigits r) [46] (by omega) (by simp)
  have add2 : ∀ w, (Op.stringOp .add (bs (decDigits r ++ [46])) (bs (decDigits n))).run Tryd.prog w = .ok (.string (bs (txt r n))) w := fun w => by
    have h := run_string_add_lists (P := Tryd.prog) w (decDigits r ++ [46]) (decDigits n) (by simp; omega) (by omega)
    rw [List.append_assoc] at h
    exact h
  go_enter Tryd.func4, Tryd.ntmps4
  go_wp2_with fail
  refine (string_any r n h1 h2 _ htab).mono ?_
  rintro e wA ⟨rfl, hwA⟩
  have htA := tab_below htab hwA
  go_wp2_with fail
  refine (string_any r m h1 h4 _ htA).mono ?_
  rintro e wB ⟨rfl, hbB⟩
  have htB := tab_below htA hbB
  have hwB := hwA.trans (hbB.mono hwA.size)
  clear hwA hbB htA
  go_wp2_with fail
  refine (string_any q n h3 h2 _ htB).mono ?_
  rintro e wC ⟨rfl, hbC⟩
  have hwC := hwB.trans (hbC.mono hwB.size)
  clear hwB hbC htB
  go_wp2_with fail
  refine (cut_txt r m h1 h4 _).mono ?_
  rintro e wD ⟨rfl, k1, rfl⟩
  go_wp2_with fail
  refine (cut_txt q n h3 h2 _).mono ?_
  rintro e wD ⟨rfl, k2, rfl⟩
  go_wp2_with fail
  refine (dec_bs r h1 _).mono ?_
  rintro e wD ⟨rfl, rfl⟩
  go_wp2_with fail
  refine (dec_bs n h2 _).mono ?_
  rintro e wD ⟨rfl, rfl⟩
  go_wp2
  go_ret
  exact ⟨rfl, below_drewN hwC _⟩

end Go.Proofs.Qxb6613472aDoor.Laws
