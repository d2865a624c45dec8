/- current; IsQuorum. -/
import Derived.Test.Qxb6613472aCur
namespace Go.Proofs.Qxb6613472a.Cur
open Go Go.RowKit Go.Deep Go.WideShapes Go.Proofs.Qxb6613472a.Base Go.Proofs.Qxb6613472a.Plain
set_option linter.unusedVariables false
set_option maxRecDepth 100000

theorem wrap_same {x : Int} (h0 : 0 ≤ x) (h1 : x ≤ 18446744073709551615) : IntKind.u64.wrap x = x := by
  obtain ⟨m, rfl⟩ : ∃ m : Nat, x = m := ⟨x.toNat, by omega⟩
  exact Quorum.wrap_u64 (by omega)

theorem next_eq {x : Int} (h0 : 0 ≤ x) (h1 : x ≤ 18446744073709551615) :
    IntKind.u64.wrap (x + if IntKind.u64.wrap (18446744073709551615 - x) < 1 then IntKind.u64.wrap (18446744073709551615 - x) else 1) = if x = 18446744073709551615 then x else x + 1 := by
  rw [wrap_same (x := 18446744073709551615 - x) (by omega) (by omega)]
  by_cases h : x = 18446744073709551615
  · rw [if_pos (by omega), if_pos h, wrap_same (by omega) (by omega)]; omega
  · rw [if_neg (by omega), if_neg h, wrap_same (by omega) (by omega)]

/-- The first slot that is not archived. -/
def first (x : Int) : Int := if x = 18446744073709551615 then x else x + 1

/-- The index of the Members at slot q, where the first Members begins at slot 1 or before. -/
def AtPost (w : World) (c : Nat) (F : Nat → Int) (q : Int) (e : Ending) (w' : World) : Prop :=
  (∃ k : Nat, k + 1 ≤ c ∧ F k ≤ max q 1 ∧ (∀ l, k + 1 ≤ l → l < c → max q 1 < F l) ∧ e = .returned (.int .i64 k)) ∧ Below w.heap.size w w'

theorem IdxPost.at {w w' : World} {c : Nat} {F : Nat → Int} {q : Int} {e : Ending} (h : IdxPost w c F q e w') (hc : 0 < c) (hF : F 0 ≤ 1) : AtPost w c F q e w' := by
  obtain ⟨⟨k, hk, hlo, hhi, rfl⟩, hb⟩ := h
  cases k with
  | zero => have := hhi 0 (Nat.le_refl _) hc; omega
  | succ k => exact ⟨⟨k, hk, hlo k (by omega), hhi, by congr 2; omega⟩, hb⟩

set_option maxHeartbeats 2000000 in
theorem curIdx_any (R G c cap : Nat) (A F : Nat → Int) (V : Nat → Value) (arch : Int) (w : World) (hn : c ≤ 1048576) (hc : 0 < c) (hm : w.cell? ⟨R, 10, none⟩ = some (.slice (some ⟨G, 0, none⟩) c cap)) (ha : w.cell? ⟨R, 3, none⟩ = some (.int .u64 arch)) (h0 : 0 ≤ arch) (h1 : arch ≤ 18446744073709551615)
    (h : Mems w G c A F V) (hmono : ∀ i j, i ≤ j → j < c → F i ≤ F j) (hF : F 0 ≤ 1) :
    Calls Try.prog 19 #[.pointer (some ⟨R, 0, none⟩)] w fun e w' => AtPost w c F (first arch) e w' := by
  have hd : Below w.heap.size w w.drew := (Below.refl _ _).drew
  unfold first
  by_cases hq : arch = 18446744073709551615
  · rw [if_pos hq]
    subst hq
    go_enter Try.func19, Try.ntmps19
    go_wp2_with fail
    go_region_held3 (fun w' => w'.cell? ⟨R, 3, none⟩ = some (.int .u64 18446744073709551615)) (go_keep) ((go_at_call 22; refine (idx_any R G c cap A F V 18446744073709551615 w.drew hn hm (h.below hd) hmono).mono ?_; rintro e w4 hp; replace hp := hp.at hc hF; obtain ⟨⟨k, hk, hlo, hhi, rfl⟩, hb⟩ := hp; have ha4 := (hb.cell (p := ⟨R, 3, none⟩) (World.block_lt_of_cell? _ _ ha)).trans ha))
    go_wp2
    go_ret
    exact ⟨⟨k, hk, hlo, hhi, rfl⟩, hd.trans hb⟩
  · rw [if_neg hq]
    obtain ⟨d, hd1⟩ : ∃ d : Int, d = 18446744073709551615 - arch := ⟨_, rfl⟩
    have e1 : IntKind.u64.wrap (18446744073709551615 - arch) = d := by rw [hd1]; exact wrap_same (by omega) (by omega)
    have e2 : (d < 1) = False := by simp only [eq_iff_iff, iff_false]; omega
    have e3 : IntKind.u64.wrap (arch + 1) = arch + 1 := wrap_same (by omega) (by omega)
    clear hq hd1 h0 h1
    go_enter Try.func19, Try.ntmps19
    go_wp2_with fail
    go_region_held3 (fun w' => w'.cell? ⟨R, 3, none⟩ = some (.int .u64 arch)) (go_keep) ((go_at_call 22; refine (idx_any R G c cap A F V (arch + 1) w.drew hn hm (h.below hd) hmono).mono ?_; rintro e w4 hp; replace hp := hp.at hc hF; obtain ⟨⟨k, hk, hlo, hhi, rfl⟩, hb⟩ := hp; have ha4 := (hb.cell (p := ⟨R, 3, none⟩) (World.block_lt_of_cell? _ _ ha)).trans ha))
    go_wp2
    go_ret
    exact ⟨⟨k, hk, hlo, hhi, rfl⟩, hd.trans hb⟩

/-- The Members that are current: those from index k on. -/
def CurPost (w : World) (G c cap : Nat) (F : Nat → Int) (q : Int) (e : Ending) (w' : World) : Prop :=
  (∃ k : Nat, k + 1 ≤ c ∧ F k ≤ max q 1 ∧ (∀ l, k + 1 ≤ l → l < c → max q 1 < F l) ∧ e = .returned (.slice (some ⟨G, k * 3, none⟩) (c - k) (cap - k))) ∧ Below w.heap.size w w'

set_option maxHeartbeats 2000000 in
theorem cur_any (R G c cap : Nat) (A F : Nat → Int) (V : Nat → Value) (arch : Int) (w : World) (hn : c ≤ 1048576) (hcap : c ≤ cap) (hcap2 : cap ≤ 1048576) (hc : 0 < c) (hm : w.cell? ⟨R, 10, none⟩ = some (.slice (some ⟨G, 0, none⟩) c cap)) (ha : w.cell? ⟨R, 3, none⟩ = some (.int .u64 arch)) (h0 : 0 ≤ arch) (h1 : arch ≤ 18446744073709551615)
    (h : Mems w G c A F V) (hmono : ∀ i j, i ≤ j → j < c → F i ≤ F j) (hF : F 0 ≤ 1) :
    Calls Try.prog 16 #[.pointer (some ⟨R, 0, none⟩)] w fun e w' => CurPost w G c cap F (first arch) e w' := by
  have hd : Below w.heap.size w w.drew := (Below.refl _ _).drew
  have hcap' : (c : Int) ≤ (cap : Int) := by omega
  go_enter Try.func16, Try.ntmps16
  go_wp2_with fail
  go_region_held3 (fun w' => w'.cell? ⟨R, 10, none⟩ = some (.slice (some ⟨G, 0, none⟩) c cap)) (go_keep) ((go_at_call 19; refine (curIdx_any R G c cap A F V arch w.drew hn hc hm ha h0 h1 (h.below hd) hmono hF).mono ?_; rintro e w4 ⟨⟨k, hk, hlo, hhi, rfl⟩, hb⟩; have hk1 : (0 : Int) ≤ (k : Int) := Int.natCast_nonneg k; have hk2 : (k : Int) ≤ (c : Int) := Int.ofNat_le.2 (Nat.le_of_succ_le hk); have hm4 := (hb.cell (p := ⟨R, 10, none⟩) (World.block_lt_of_cell? _ _ hm)).trans hm))
  simp only [if_neg (show ¬ cap = k by omega)]
  go_wp2
  go_ret
  exact ⟨⟨k, hk, hlo, hhi, rfl⟩, hd.trans hb⟩

end Go.Proofs.Qxb6613472a.Cur
