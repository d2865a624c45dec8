/- zzBytes_FnShowReplicasRowsFollowRegistrations. -/
import Derived.Test.Qxb6613399aReadWalk
namespace Go.Proofs.Qxb6613399a.Show
open Go.RowKit Go.Deep Go.WideShapes Go.Proofs.Qxb6613399a.Base
set_option linter.unusedVariables false
set_option maxRecDepth 100000

/-- WHAT THE WALK IS TOLD OF THE SLICE OF REPLICAS THAT CAME IN. -/
structure Reps (w : World) (a : Option Addr) (len b off : Nat) (R : Nat → Rep) : Prop where
  addr : 0 < len → a = some ⟨b, off, none⟩
  c0 : ∀ i, i < len → w.cell? ⟨b, off + i * 5, none⟩ = some (.string (R i).name)
  c1 : ∀ i, i < len → w.cell? ⟨b, off + i * 5 + 1, none⟩ = some (.string (R i).address)
  c2 : ∀ i, i < len → w.cell? ⟨b, off + i * 5 + 2, none⟩ = some (.string (R i).mode)
  c3 : ∀ i, i < len → w.cell? ⟨b, off + i * 5 + 3, none⟩ = some (.string (R i).status)
  c4 : ∀ i, i < len → w.cell? ⟨b, off + i * 5 + 4, none⟩ = some (.int .i64 (R i).ts)

theorem Reps.below {w w' : World} {a : Option Addr} {len b off : Nat} {R : Nat → Rep} (h : Reps w a len b off R) (hb : Below w.heap.size w w') : Reps w' a len b off R :=
  ⟨h.addr, fun i hi => (hb.cell (p := ⟨b, off + i * 5, none⟩) (World.block_lt_of_cell? _ _ (h.c0 i hi))).trans (h.c0 i hi),
    fun i hi => (hb.cell (p := ⟨b, off + i * 5 + 1, none⟩) (World.block_lt_of_cell? _ _ (h.c1 i hi))).trans (h.c1 i hi),
    fun i hi => (hb.cell (p := ⟨b, off + i * 5 + 2, none⟩) (World.block_lt_of_cell? _ _ (h.c2 i hi))).trans (h.c2 i hi),
    fun i hi => (hb.cell (p := ⟨b, off + i * 5 + 3, none⟩) (World.block_lt_of_cell? _ _ (h.c3 i hi))).trans (h.c3 i hi),
    fun i hi => (hb.cell (p := ⟨b, off + i * 5 + 4, none⟩) (World.block_lt_of_cell? _ _ (h.c4 i hi))).trans (h.c4 i hi)⟩

set_option maxHeartbeats 1000000 in
theorem bytes_any (nW : Int) (a : Option Addr) (len cap b off : Nat) (R : Nat → Rep) (x : Rep) (w : World) (h : Reps w a len b off R) :
    Calls Try.prog 14 #[.int .i64 nW, .slice a len cap, x.agg] w fun e w' => SomeBool e ∧ Below w.heap.size w w' := by
  obtain ⟨xn, xa, xm, xs, xt⟩ := x
  simp only [Rep.agg]
  by_cases hl : (1048576 : Int) < (len : Int)
  · go_enter Try.func14, Try.ntmps14
    go_wp2
    go_ret
    exact ⟨⟨_, rfl⟩, (Below.refl _ _).alloc (Nat.le_refl _) _⟩
  go_enter Try.func14, Try.ntmps14
  go_wp2
  go_loop [7, 8] (fun z i => ∃ (k : Nat) (n : Int), k ≤ len ∧ i = .int .i64 k ∧ z = .int .i64 n) (fun _ i => len - (intOf i).toNat)
  case atStart => exact ⟨0, _, Nat.zero_le _, rfl, rfl⟩
  case round =>
    obtain ⟨k, z, hk, rfl, rfl⟩ := hrel
    by_cases hlt : k < len
    · have ha := h.addr (by omega)
      have g0 := fun o => cell_al (h.c0 k hlt) o
      have g1 := fun o => cell_al (h.c1 k hlt) o
      have g2 := fun o => cell_al (h.c2 k hlt) o
      have g3 := fun o => cell_al (h.c3 k hlt) o
      clear h
      subst ha
      go_wp2
      iterate 8 (go_ret; exact ⟨⟨_, rfl⟩, (Below.refl _ _).alloc (Nat.le_refl _) _⟩)
      go_round
      case rel => exact ⟨k + 1, _, by omega, by go_num, rfl⟩
      case measure => simp [intOf]; omega
    · clear h
      go_wp2
      all_goals go_ret
      all_goals exact ⟨⟨_, rfl⟩, (Below.refl _ _).alloc (Nat.le_refl _) _⟩

end Go.Proofs.Qxb6613399a.Show
