/- THE WALK OF FnCountCreationsCountAsSeen. -/
import Derived.Test.Qxb6613399aBase
import Derived.OpenShut
import Derived.WalkSmall
namespace Go.Proofs.Qxb6613399a.Seen
open Go.RowKit Go.Deep Go.WideShapes Go.Proofs.Qxb6613399a.Base
set_option linter.unusedVariables false
set_option maxRecDepth 100000

theorem ret_true {b : Bool} (h : b = true) : Ending.returned (.bool b) = .returned (.bool true) := by rw [h]

set_option maxHeartbeats 400000 in
theorem bytes_yes (s : Int) (a : Option Addr) (len cap : Nat) (w : World) (h : (len : Int) ≤ 1048576) :
    Calls Try.prog 13 #[.int .i64 s, .slice a len cap] w fun e w' => e = .returned (.bool true) ∧ w' = w := by
  go_enter Try.func13, Try.ntmps13
  go_wp2
  go_ret
  exact ⟨rfl, rfl⟩

set_option maxHeartbeats 400000 in
theorem bytes_no (s : Int) (a : Option Addr) (len cap : Nat) (w : World) (h : (1048576 : Int) < (len : Int)) :
    Calls Try.prog 13 #[.int .i64 s, .slice a len cap] w fun e w' => e = .returned (.bool false) ∧ w' = w := by
  go_enter Try.func13, Try.ntmps13
  go_wp2
  go_ret
  exact ⟨rfl, rfl⟩

set_option maxHeartbeats 400000 in
theorem walk (a0 : Int) (a1 : Option Addr) (len1 cap1 : Nat) (z1 : List Int) (w : World) (w0 : (Lit.int .i64 a0).wf = true) (w1 : IsRow .i64 w a1 len1 cap1 z1) :
    Calls Try.prog 5 #[.int .i64 a0, .slice a1 len1 cap1] w fun e w' => e = .returned (.bool true) ∧ Below w.heap.size w w' := by
  have hbd := bounds_i64 w0
  by_cases h20 : (1048576 : Int) < (len1 : Int)
  · go_enter Try.func5, Try.ntmps5
    go_wp2_with fail
    refine (bytes_no _ _ _ _ _ h20).mono ?_
    rintro e w' ⟨rfl, rfl⟩
    go_wp2
    go_ret
    exact ⟨rfl, Below.refl _ _⟩
  have h20' : (len1 : Int) ≤ 1048576 := by omega
  by_cases h16 : (65536 : Int) < (len1 : Int)
  · go_enter Try.func5, Try.ntmps5
    go_wp2_with fail
    refine (bytes_yes _ _ _ _ _ h20').mono ?_
    rintro e w' ⟨rfl, rfl⟩
    go_wp2
    go_ret
    exact ⟨rfl, Below.refl _ _⟩
  by_cases hs : a0 < 0
  · go_enter Try.func5, Try.ntmps5
    go_wp2_with fail
    refine (bytes_yes _ _ _ _ _ h20').mono ?_
    rintro e w' ⟨rfl, rfl⟩
    go_wp2
    go_ret
    exact ⟨rfl, Below.refl _ _⟩
  by_cases hs2 : 9223372036854775807 - (len1 : Int) < a0
  · go_enter Try.func5, Try.ntmps5
    go_wp2_with fail
    refine (bytes_yes _ _ _ _ _ h20').mono ?_
    rintro e w' ⟨rfl, rfl⟩
    go_wp2
    go_ret
    exact ⟨rfl, Below.refl _ _⟩
  have hl : len1 ≤ 65536 := by omega
  have hw : wrap64 a0 = a0 := by unfold wrap64; omega
  have hw2 : wrap64 (a0 + len1) = a0 + len1 := by unfold wrap64; omega
  go_enter Try.func5, Try.ntmps5
  go_wp2_with fail
  refine (bytes_yes _ _ _ _ _ h20').mono ?_
  rintro e w' ⟨rfl, rfl⟩
  go_wp2_with fail
  refine (clone_any a1 len1 cap1 z1 _ hl w1).mono ?_
  rintro e wa ⟨a', rfl, hb, -⟩
  go_wp2_with fail
  refine (new_any _ _ _ _ _).mono ?_
  rintro e wb ⟨rfl, rfl⟩
  go_wp2_with fail
  refine (zzcount_any _ a0 a' len1 len1 _ (by go_simp) (by go_simp)).mono ?_
  rintro e wb ⟨rfl, n, rfl⟩
  go_wp2_with fail
  refine (new_any _ _ _ _ _).mono ?_
  rintro e wb ⟨rfl, rfl⟩
  go_wp2_with fail
  refine (zzcount_any _ (a0 + len1) none 0 0 _ (by go_simp) (by go_simp)).mono ?_
  rintro e wb ⟨rfl, n2, rfl⟩
  go_wp2_with fail
  refine (new_any _ _ _ _ _).mono ?_
  rintro e wb ⟨rfl, rfl⟩
  go_wp2_with fail
  refine (zzcount_any _ a0 none 0 0 _ (by go_simp) (by go_simp)).mono ?_
  rintro e wb ⟨rfl, n3, rfl⟩
  go_wp2
  go_ret
  refine ⟨rfl, ?_⟩
  have h1 := below_drewN (hb.alloc hb.size (.cells #[.pointer none, .bool false, .int .i64 a0, .slice a' len1 len1] 48)) n
  have h2 := below_drewN (h1.alloc h1.size (.cells #[.pointer none, .bool false, .int .i64 (a0 + len1), .slice none 0 0] 48)) n2
  have h3 := below_drewN (h2.alloc h2.size (.cells #[.pointer none, .bool false, .int .i64 a0, .slice none 0 0] 48)) n3
  exact h3

end Go.Proofs.Qxb6613399a.Seen
