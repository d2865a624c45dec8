/- slices.Values over []uint64: the closure's contract. -/
import Derived.Test.Qxb6613472aSearch
import Derived.Test.Qxb6613472aRange
namespace Go.Proofs.Qxb6613472a.Seq
open Go Go.RowKit Go.Shelf Go.Proofs.Qxb6613472a.Base Go.Proofs.Qxb6613472a.Plain
set_option linter.unusedVariables false
set_option maxRecDepth 100000
attribute [local go_sem] Oper.semAt_some

set_option maxHeartbeats 2000000 in
theorem values1 (F : Fence) (n : Nat) (h18 : F.fn 18) (hro : F.round = none) (hn : 1 ≤ n) (l Bs n₀ len cap b off : Nat) (a : Option Addr) (g : Nat → Int) (hl : len ≤ 1048576) (hb : 0 < len → b < n₀) (J Jx : List Int → World → Prop)
    (hY : ∀ pre x W, J pre W → pre.length < len → YieldAt F (n - 1) Try.prog l #[.int .u64 x] W fun e W' =>
      (e = .returned (.bool true) ∧ J (pre ++ [x]) W' ∧ Below n₀ W W') ∨ (e = .returned (.bool false) ∧ Jx (pre ++ [x]) W'))
    (W : World) (hBs : W.cell? ⟨Bs, 0, none⟩ = some (.slice a len cap)) (hR : Row W a len b off g) (h0 : J [] W) :
    CallsIn F n Try.prog 18 #[.func (.yield l) #[] #[], .pointer (some ⟨Bs, 0, none⟩)] W fun e W' => (∃ v, e = .returned v) ∧
      ((∃ ys, ys = upto g len ∧ J ys W') ∨ (∃ pre, (∃ k, k ≤ len ∧ pre = upto g k) ∧ Jx pre W')) := by
  refine callsIn_of_wp Try.func18 rfl h18 ?_ hro
  simp only [Try.ntmps18, List.size_toArray, List.length_cons, List.length_nil, Nat.reduceAdd, Nat.reduceSub, Array.replicate_succ, Array.replicate_zero, List.push_toArray, List.append_toArray, List.nil_append, List.cons_append]
  gi_wp2
  gi_loopw [7] (fun i wr => ∃ k : Nat, k ≤ len ∧ i = .int .i64 k ∧ J (upto g k) wr ∧ Below n₀ W wr)
    (fun i _ => len - (intOf i).toNat)
  case atStart => exact ⟨0, Nat.zero_le _, rfl, h0, Below.refl _ _⟩
  case round =>
    obtain ⟨k, hk, rfl, hJs, hnx⟩ := hrel
    by_cases hlt : k < len
    · have ha := hR.addr (by omega)
      have hcx := (hnx.cell (p := ⟨b, off + k, none⟩) (hb (by omega))).trans (hR.cell k hlt)
      obtain ⟨fn, tmps, assign, body, hy, hYR⟩ := hY _ (g k) wr hJs (by rw [upto_length]; exact hlt)
      have hkl : (k : Int) < (len : Int) := by omega
      subst ha
      clear hR
      gi_wp2
      refine hYR.mono ?_
      rintro e W3 (⟨rfl, hJ3, hk3⟩ | ⟨rfl, hJx3⟩)
      · gi_wp2
        go_roundw
        case rel => exact ⟨k + 1, by omega, by simp, by rw [upto_succ]; exact hJ3, hnx.trans hk3⟩
        case measure => simp [intOf]; omega
      · gi_wp2
        refine bodyPost_ret (results_none rfl _ _ _) rfl ?_
        exact ⟨⟨_, rfl⟩, .inr ⟨_, ⟨k + 1, by omega, (upto_succ _ _).symm⟩, hJx3⟩⟩
    · obtain rfl : k = len := by omega
      gi_wp2
      go_end0
      exact ⟨⟨_, rfl⟩, .inl ⟨_, rfl, hJs⟩⟩

end Go.Proofs.Qxb6613472a.Seq
