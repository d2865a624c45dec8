/- THE WALK OF FnShowReplicasRowsFollowRegistrations. -/
import Derived.Test.Qxb6613399aBytesWalk
import Derived.OpenShut
import Derived.Deep.RegionHeld3
import Derived.Deep.RegionWith
namespace Go.Proofs.Qxb6613399a.Show
open Go.RowKit Go.Deep Go.WideShapes Go.Proofs.Qxb6613399a.Base
set_option linter.unusedVariables false
set_option maxRecDepth 100000

theorem new_ptr (m : Nat) (seen : Int) (w : World) :
    Calls Try.prog 9 #[.pointer (some ⟨m, 0, none⟩), .int .i64 seen, .slice none 0 0] w fun e w' => e = .returned (.pointer (some ⟨w.heap.size, 0, none⟩)) ∧
      w' = w.alloc (.cells #[.pointer (some ⟨m, 0, none⟩), .bool false, .int .i64 seen, .slice none 0 0] 48) := by
  go_enter Try.func9, Try.ntmps9
  go_wp2
  go_ret
  exact ⟨rfl, rfl⟩

/-- The block of x (type 31). -/
def xObj (r : Rep) : Obj := .cells #[.string r.name, .string r.address, .string r.mode, .string r.status, .int .i64 r.ts] 31

theorem xcells {w : World} {S : Nat} {r : Rep} (h : w.heap[S]? = some (xObj r)) :
    w.cell? ⟨S, 0, none⟩ = some (.string r.name) ∧ w.cell? ⟨S, 1, none⟩ = some (.string r.address) ∧ w.cell? ⟨S, 2, none⟩ = some (.string r.mode) ∧ w.cell? ⟨S, 3, none⟩ = some (.string r.status) ∧ w.cell? ⟨S, 4, none⟩ = some (.int .i64 r.ts) :=
  ⟨cell_of_heap h 0 rfl, cell_of_heap h 1 rfl, cell_of_heap h 2 rfl, cell_of_heap h 3 rfl, cell_of_heap h 4 rfl⟩

theorem Reps.low {w w' : World} {a : Option Addr} {len b off B : Nat} {R : Nat → Rep} (h : Reps w a len b off R) (hb : Below B w w') (hB : b < B) : Reps w' a len b off R :=
  ⟨h.addr, fun i hi => (hb.cell (p := ⟨b, off + i * 5, none⟩) hB).trans (h.c0 i hi), fun i hi => (hb.cell (p := ⟨b, off + i * 5 + 1, none⟩) hB).trans (h.c1 i hi), fun i hi => (hb.cell (p := ⟨b, off + i * 5 + 2, none⟩) hB).trans (h.c2 i hi),
    fun i hi => (hb.cell (p := ⟨b, off + i * 5 + 3, none⟩) hB).trans (h.c3 i hi), fun i hi => (hb.cell (p := ⟨b, off + i * 5 + 4, none⟩) hB).trans (h.c4 i hi)⟩

theorem Reps.at {w : World} {a : Option Addr} {len b off : Nat} {R : Nat → Rep} (h : Reps w a len b off R) {k : Nat} (hk : k < len) :
    w.cell? ⟨b, off + k * 5, none⟩ = some (.string (R k).name) ∧ w.cell? ⟨b, off + k * 5 + 1, none⟩ = some (.string (R k).address) ∧ w.cell? ⟨b, off + k * 5 + 2, none⟩ = some (.string (R k).mode) ∧ w.cell? ⟨b, off + k * 5 + 3, none⟩ = some (.string (R k).status) ∧ w.cell? ⟨b, off + k * 5 + 4, none⟩ = some (.int .i64 (R k).ts) :=
  ⟨h.c0 k hk, h.c1 k hk, h.c2 k hk, h.c3 k hk, h.c4 k hk⟩

theorem cell_below {w w' : World} {a : Addr} {v : Value} (h : w.cell? a = some v) (hb : Below w.heap.size w w') : w'.cell? a = some v :=
  (hb.cell (World.block_lt_of_cell? _ _ h)).trans h

theorem nine {w w' : World} {a0 a1 a2 a3 a4 a5 a6 a7 a8 : Addr} {v0 v1 v2 v3 v4 v5 v6 v7 v8 : Value} (hb : Below w.heap.size w w') (h0 : w.cell? a0 = some v0) (h1 : w.cell? a1 = some v1) (h2 : w.cell? a2 = some v2) (h3 : w.cell? a3 = some v3) (h4 : w.cell? a4 = some v4) (h5 : w.cell? a5 = some v5) (h6 : w.cell? a6 = some v6) (h7 : w.cell? a7 = some v7) (h8 : w.cell? a8 = some v8) :
    w'.cell? a0 = some v0 ∧ w'.cell? a1 = some v1 ∧ w'.cell? a2 = some v2 ∧ w'.cell? a3 = some v3 ∧ w'.cell? a4 = some v4 ∧ w'.cell? a5 = some v5 ∧ w'.cell? a6 = some v6 ∧ w'.cell? a7 = some v7 ∧ w'.cell? a8 = some v8 :=
  ⟨cell_below h0 hb, cell_below h1 hb, cell_below h2 hb, cell_below h3 hb, cell_below h4 hb, cell_below h5 hb, cell_below h6 hb, cell_below h7 hb, cell_below h8 hb⟩

set_option maxHeartbeats 2000000 in
theorem walk (nW : Int) (a : Option Addr) (len cap b off : Nat) (R : Nat → Rep) (w : World) (h : Reps w a len b off R) :
    Calls Try.prog 6 #[.int .i64 nW, .slice a len cap, (R len).agg] w fun e w' => e = .returned (.bool true) ∧ Below w.heap.size w w' := by
  obtain ⟨o1, ho1⟩ : ∃ o1, o1 = Obj.cells #[.string (R len).name, .string (R len).address, .string (R len).mode, .string (R len).status, .int .i64 (R len).ts] 31 := ⟨_, rfl⟩
  have hb0 : Below w.heap.size w (w.alloc o1) := (Below.refl _ _).alloc (Nat.le_refl _) _
  have hx : (w.alloc o1).heap[w.heap.size]? = some o1 := heap_alloc_new _ _
  simp only [Rep.agg]
  go_enter Try.func6, Try.ntmps6
  go_wp2_with fail
  rw [← ho1]
  refine (bytes_any nW a len cap b off R (R len) _ (h.below hb0)).mono ?_
  rintro e w1 ⟨⟨bb, rfl⟩, hb1⟩
  have hx1 : w1.heap[w.heap.size]? = some o1 := (hb1.block _ (by simp)).trans hx
  have hw1 : Below w.heap.size w w1 := hb0.trans (hb1.mono (by simp))
  clear hb0 hx hb1
  cases bb
  · clear ho1
    go_wp2
    go_ret
    exact ⟨rfl, hw1⟩
  by_cases hl : (65536 : Int) < (len : Int)
  · clear ho1
    go_wp2
    go_ret
    exact ⟨rfl, hw1⟩
  rw [ho1] at hx1
  clear ho1
  obtain ⟨x0, x1, x2, x3, x4⟩ : w1.cell? ⟨w.heap.size, 0, none⟩ = some (.string (R len).name) ∧ w1.cell? ⟨w.heap.size, 1, none⟩ = some (.string (R len).address) ∧ w1.cell? ⟨w.heap.size, 2, none⟩ = some (.string (R len).mode) ∧ w1.cell? ⟨w.heap.size, 3, none⟩ = some (.string (R len).status) ∧ w1.cell? ⟨w.heap.size, 4, none⟩ = some (.int .i64 (R len).ts) :=
    ⟨cell_of_heap hx1 0 rfl, cell_of_heap hx1 1 rfl, cell_of_heap hx1 2 rfl, cell_of_heap hx1 3 rfl, cell_of_heap hx1 4 rfl⟩
  have HX : Hid (w1.heap[w.heap.size]? = some (.cells #[.string (R len).name, .string (R len).address, .string (R len).mode, .string (R len).status, .int .i64 (R len).ts] 31)) := hx1
  clear hx1
  go_wp2_with fail
  refine (repBytes_any _ (R len) _).mono ?_
  rintro e w2 ⟨⟨t0, rfl⟩, hb2⟩
  have HX2 : Hid (w2.heap[w.heap.size]? = some (.cells #[.string (R len).name, .string (R len).address, .string (R len).mode, .string (R len).status, .int .i64 (R len).ts] 31)) := (hb2.block _ (lt_of_some HX.out)).trans HX.out
  have hw2 : Below w.heap.size w w2 := hw1.trans (hb2.mono hw1.size)
  have h2 := h.below hw2
  have hlt2 := lt_of_some HX2.out
  clear x0 x1 x2 x3 x4 hb2 HX hw1
  have hbel := h
  clear h
  go_wp2_with fail
  go_loopw [7, 8] (fun t i wr => ∃ (k : Nat) (z : Int), k ≤ len ∧ i = .int .i64 k ∧ t = .int .i64 z ∧ Below w2.heap.size w2 wr) (fun _ i _ => len - (intOf i).toNat)
  case atStart => exact ⟨0, _, Nat.zero_le _, rfl, rfl, Below.refl _ _⟩
  case round =>
    obtain ⟨k, z, hk, rfl, rfl, hbr⟩ := hrel
    have hwr : Below w.heap.size w wr := hw2.trans (hbr.mono hw2.size)
    by_cases hlt : k < len
    · have hr := h2.below hbr
      have ha := hr.addr (by omega)
      have g0 := hr.c0 k hlt
      have g1 := hr.c1 k hlt
      have g2 := hr.c2 k hlt
      have g3 := hr.c3 k hlt
      have g4 := hr.c4 k hlt
      clear hr h2
      subst ha
      go_wp2_with fail
      refine (repBytes_any _ (R k) _).mono ?_
      rintro e w3 ⟨⟨t3, rfl⟩, hb3⟩
      have hbn : Below w2.heap.size w2 w3 := hbr.trans (hb3.mono hbr.size)
      have hwn : Below w.heap.size w w3 := hw2.trans (hbn.mono hw2.size)
      clear g0 g1 g2 g3 g4 hb3
      go_wp2_with fail
      · go_ret
        exact ⟨rfl, hwn⟩
      · go_roundw
        case rel => exact ⟨k + 1, _, by omega, by go_num, rfl, hbn⟩
        case measure => simp [intOf]; omega
    · have e : k = len := by omega
      subst e
      have hxr : wr.heap[w.heap.size]? = some (xObj (R k)) := (hbr.block _ hlt2).trans HX2.out
      have HXR : Hid (wr.heap[w.heap.size]? = some (xObj (R k))) := hxr
      have x4 := (xcells hxr).2.2.2.2
      have hr := h2.below hbr
      clear hbr h2 HX2 hw2 hlt2 hxr hlt hk
      by_cases hz : (1048576 : Int) < z
      · go_wp2_with fail
        go_ret
        exact ⟨rfl, hwr⟩
      by_cases hn0 : nW < 0
      · go_wp2_with fail
        go_ret
        exact ⟨rfl, hwr⟩
      by_cases hn1 : (65536 : Int) < nW
      · go_wp2_with fail
        go_ret
        exact ⟨rfl, hwr⟩
      by_cases ht0 : (R k).ts < 0
      · go_wp2_with fail
        go_ret
        exact ⟨rfl, hwr⟩
      obtain ⟨n, rfl⟩ := Int.eq_ofNat_of_zero_le (Int.not_lt.1 hn0)
      go_wp2_with fail
      go_loop [9] (fun i => ∃ (j : Nat), j ≤ k ∧ i = .int .i64 j) (fun i => k - (intOf i).toNat)
      case atStart => exact ⟨0, Nat.zero_le _, rfl⟩
      case round =>
        obtain ⟨j, hj, rfl⟩ := hrel
        by_cases hlt : j < k
        · have ha := hr.addr (by omega)
          have g4 := hr.c4 j hlt
          clear hr
          subst ha
          go_wp2_with fail
          · go_ret
            exact ⟨rfl, hwr⟩
          · go_round
            case rel => exact ⟨j + 1, by omega, by go_num⟩
            case measure => simp [intOf]; omega
        · have e : j = k := by omega
          subst e
          clear hlt hj x4
          go_wp2_with fail
          refine (newMember_any n (by omega) _).mono ?_
          rintro e w3 ⟨rfl, hb3, hm3⟩
          have hR3 : Regs w.heap.size w3 (wr.heap.size + 1) (.slice (some ⟨wr.heap.size, 0, none⟩) n n) (.slice none 0 0) 0 (fun _ => 0) R :=
            ⟨by have := hwr.size; omega, hm3, World.ownsRow_nil _ _ _ _, fun i hi => absurd hi (Nat.not_lt_zero _)⟩
          have hw3 : Below w.heap.size w w3 := hwr.trans (hb3.mono hwr.size)
          have hr3 := hr.below hb3
          have HX3 : Hid (w3.heap[w.heap.size]? = some (xObj (R j))) := (hb3.block _ (lt_of_some HXR.out)).trans HXR.out
          generalize (some (⟨wr.heap.size, 0, none⟩ : Addr)) = wa at hR3
          generalize wr.heap.size + 1 = m at *
          have hbl : 0 < j → b < w.heap.size := fun h0 => World.block_lt_of_cell? _ _ (hbel.c0 0 h0)
          clear hr hwr hb3 hm3 HXR
          go_wp2_with fail
          go_loopw [11] (fun i wl => ∃ (k : Nat) (v : Value) (ps : Nat → Nat), k ≤ j ∧ i = .int .i64 k ∧ Regs w.heap.size wl m (.slice wa n n) v k ps R ∧ Below w.heap.size w wl ∧ Kept w3 wl) (fun i _ => j - (intOf i).toNat)
          case atStart => exact ⟨0, _, _, Nat.zero_le _, rfl, hR3, hw3, fun _ _ h _ => h⟩
          case round =>
            clear hR3 hr3
            obtain ⟨k, v, ps, hk, rfl, hRk, hwk, hKk⟩ := hrel
            by_cases hlt : k < j
            · have hbb := hbl (by omega)
              have ha := hbel.addr (by omega)
              have hrk := hbel.low hwk hbb
              obtain ⟨g0, g1, g2, g3, g4⟩ := hrk.at hlt
              have hkl : (k : Int) < (j : Int) := by omega
              have hRd : Regs w.heap.size wr.drew m (.slice wa n n) v k ps R := ⟨hRk.low, hRk.mem, hRk.own, hRk.rep⟩
              have hwd : Below w.heap.size w wr.drew := hwk.drew
              subst ha
              clear hrk
              go_wp2_with fail
              go_region_held3 (fun w' => w'.cell? ⟨b, off + k * 5, none⟩ = some (.string (R k).name) ∧ w'.cell? ⟨b, off + k * 5 + 1, none⟩ = some (.string (R k).address) ∧ w'.cell? ⟨b, off + k * 5 + 2, none⟩ = some (.string (R k).mode) ∧ w'.cell? ⟨b, off + k * 5 + 3, none⟩ = some (.string (R k).status) ∧ w'.cell? ⟨b, off + k * 5 + 4, none⟩ = some (.int .i64 (R k).ts))
                (go_keep) ((go_at_call 17; refine (addReplica_any w.heap.size m k (.slice wa n n) v ps R wr.drew hRd hwd.size (by omega)).mono ?_; rintro e w4 ⟨rfl, v', ps', hR4, hB4, hK4⟩; obtain ⟨f0, f1, f2, f3, f4⟩ := (hbel.low (hwd.trans hB4) hbb).at hlt))
              have hBn : Below w.heap.size w w4 := hwd.trans hB4
              have hKn : Kept w3 w4 := fun k o h1 h2 => hK4 k o (hKk k o h1 h2) h2
              clear g0 g1 g2 g3 g4 f0 f1 f2 f3 f4 hRk hwk hKk hRd hwd hB4 hK4
              go_wp2_with fail
              go_roundw
              case rel => exact ⟨k + 1, _, _, by omega, by go_num, hR4, hBn, hKn⟩
              case measure => simp [intOf]; omega
            · have e : k = j := by omega
              subst e
              have hxl : wr.heap[w.heap.size]? = some (xObj (R k)) := hKk _ _ HX3.out rfl
              clear hKk HX3 hlt hk
              go_wp2_with fail
              refine (new_ptr m 0 _).mono ?_
              rintro e w5 ⟨rfl, rfl⟩
              have hb5 : Below wr.heap.size wr (wr.alloc (.cells #[.pointer (some ⟨m, 0, none⟩), .bool false, .int .i64 0, .slice none 0 0] 48)) := (Below.refl _ _).alloc (Nat.le_refl _) _
              have hR5 := hRk.below hb5
              have hx5 := (hb5.block _ (lt_of_some hxl)).trans hxl
              have hw5 := hwk.trans (hb5.mono hwk.size)
              have ht5 := heap_alloc_new wr (.cells #[.pointer (some ⟨m, 0, none⟩), .bool false, .int .i64 0, .slice none 0 0] 48)
              generalize hw5e : wr.alloc (.cells #[.pointer (some ⟨m, 0, none⟩), .bool false, .int .i64 0, .slice none 0 0] 48) = w5 at *
              generalize wr.heap.size = t at *
              clear hw5e hRk hxl hwk hb5
              go_wp2_with fail
              refine (zzshow_any w.heap.size m k n t wa n v ps R _ hR5 (by omega) (by omega) (cell_of_heap ht5 0 rfl)).mono ?_
              rintro e w6 ⟨F, G, rfl, hb6, hS6⟩
              have hR6 := hR5.below hb6
              have hx6 := (hb6.block _ (lt_of_some hx5)).trans hx5
              have ht6 := (hb6.block _ (lt_of_some ht5)).trans ht5
              have hw6 := hw5.trans (hb6.mono hw5.size)
              clear hb6 hR5 hx5 ht5 hw5
              simp only [resAgg]
              obtain ⟨y0, y1, y2, y3, y4⟩ := xcells hx6
              have z0 := fun o => cell_al y0 o
              have z1 := fun o => cell_al y1 o
              have z2 := fun o => cell_al y2 o
              have z3 := fun o => cell_al y3 o
              have z4 := fun o => cell_al y4 o
              clear y0 y1 y2 y3 y4
              go_wp2_with fail
              have hb7 : Below w6.heap.size w6 (w6.alloc (.cells #[.slice (some ⟨F, 0, none⟩) 5 5, .slice (some ⟨G, 0, none⟩) k k] 40)) := (Below.refl _ _).alloc (Nat.le_refl _) _
              have hR7 := hR6.below hb7
              have hx7 := (hb7.block _ (lt_of_some hx6)).trans hx6
              have ht7 := (hb7.block _ (lt_of_some ht6)).trans ht6
              have hw7 := hw6.trans (hb7.mono hw6.size)
              have hS7 := hS6.below hb7
              have hp7 := heap_alloc_new w6 (.cells #[.slice (some ⟨F, 0, none⟩) 5 5, .slice (some ⟨G, 0, none⟩) k k] 40)
              generalize hw7e : w6.alloc (.cells #[.slice (some ⟨F, 0, none⟩) 5 5, .slice (some ⟨G, 0, none⟩) k k] 40) = w7 at *
              generalize w6.heap.size = p at *
              clear hw7e hR6 hx6 ht6 hw6 hb7 z0 z1 z2 z3 z4
              refine (addReplica_any w.heap.size m k (.slice wa n n) v ps R w7 hR7 hw7.size (by omega)).mono ?_
              rintro e w8 ⟨rfl, v', ps', hR8, hB8, hK8⟩
              have hx8 := hK8 _ _ hx7 rfl
              have ht8 := hK8 _ _ ht7 rfl
              have hp8 := hK8 _ _ hp7 rfl
              have hw8 := hw7.trans hB8
              have hS8 := hS7.kept hK8
              clear hR7 hx7 ht7 hw7 hS7 hS6 hp7 hB8 hK8
              go_wp2_with fail
              refine (zzshow_any w.heap.size m (k + 1) n t wa n v' ps' R _ hR8 (by omega) (by omega) (cell_of_heap ht8 0 rfl)).mono ?_
              rintro e w9 ⟨F', G', rfl, hb9, hS9'⟩
              have hS9 := hS8.below hb9
              have hx9 := (hb9.block _ (lt_of_some hx8)).trans hx8
              have hp9 := (hb9.block _ (lt_of_some hp8)).trans hp8
              have hw9 := hw8.trans (hb9.mono hw8.size)
              clear hb9 hR8 hx8 ht8 hw8 hS8 hp8
              simp only [resAgg]
              have y0 := fun o => cell_al (cell_of_heap hp9 0 rfl) o
              have y1 := fun o => cell_al (cell_of_heap hp9 1 rfl) o
              go_wp2_with fail
              have hb10 : Below w9.heap.size w9 (w9.alloc (.cells #[.slice (some ⟨F', 0, none⟩) 5 5, .slice (some ⟨G', 0, none⟩) (k + 1) (k + 1)] 40)) := (Below.refl _ _).alloc (Nat.le_refl _) _
              have hx10 := (hb10.block _ (lt_of_some hx9)).trans hx9
              have hw10 := hw9.trans (hb10.mono hw9.size)
              have hS10 := hS9.below hb10
              have hS10' := hS9'.below hb10
              have hp10 := (hb10.block _ (lt_of_some hp9)).trans hp9
              have hp10' := heap_alloc_new w9 (.cells #[.slice (some ⟨F', 0, none⟩) 5 5, .slice (some ⟨G', 0, none⟩) (k + 1) (k + 1)] 40)
              generalize hw10e : w9.alloc (.cells #[.slice (some ⟨F', 0, none⟩) 5 5, .slice (some ⟨G', 0, none⟩) (k + 1) (k + 1)] 40) = w10 at *
              generalize w9.heap.size = p' at *
              clear hw10e hx9 hw9 hS9 hS9' hp9 hb10 y0 y1
              have y0 := cell_of_heap hp10 0 rfl
              have y1 := cell_of_heap hp10 1 rfl
              have y2 := cell_of_heap hp10' 0 rfl
              have y3 := cell_of_heap hp10' 1 rfl
              simp only [List.getElem_toArray, List.getElem_cons_zero, List.getElem_cons_succ] at y0 y1 y2 y3
              refine (cols_any F _ hS10.cols).mono ?_
              rintro e w11 ⟨rfl, hw11⟩
              rw [hw11]
              clear hw11
              go_wp2_with fail
              refine (cols_any F' _ hS10'.cols).mono ?_
              rintro e w11 ⟨rfl, hw11⟩
              rw [hw11]
              clear hw11
              go_wp2_with fail
              clear y0 y1 y2 y3
              go_loopw [17] (fun i wl => ∃ (l : Nat), l ≤ k ∧ i = .int .i64 l ∧ Below w10.heap.size w10 wl) (fun i _ => k - (intOf i).toNat)
              case atStart => exact ⟨0, Nat.zero_le _, rfl, Below.refl _ _⟩
              case round =>
                obtain ⟨l, hl', rfl, hbl'⟩ := hrel
                have hwl := hw10.trans (hbl'.mono hw10.size)
                have hSl := hS10.below hbl'
                have hSl' := hS10'.below hbl'
                have hpl := (hbl'.block _ (lt_of_some hp10)).trans hp10
                have hpl' := (hbl'.block _ (lt_of_some hp10')).trans hp10'
                have hxl := (hbl'.block _ (lt_of_some hx10)).trans hx10
                have y0 := cell_of_heap hpl 0 rfl
                have y1 := cell_of_heap hpl 1 rfl
                have y2 := cell_of_heap hpl' 0 rfl
                have y3 := cell_of_heap hpl' 1 rfl
                simp only [List.getElem_toArray, List.getElem_cons_zero, List.getElem_cons_succ] at y0 y1 y2 y3
                by_cases hlt : l < k
                · have hbb := hbl (by omega)
                  have ha := hbel.addr (by omega)
                  obtain ⟨g0, g1, g2, g3, g4⟩ := (hbel.low hwl hbb).at hlt
                  have hkl : (l : Int) < (k : Int) := by omega
                  have hdr : Below wr.heap.size wr wr.drew := (Below.refl _ _).drew
                  have hSd : Shown wr.drew F G k R n := hSl.below ((Below.refl _ _).drew)
                  have hSd' : Shown wr.drew F' G' (k + 1) R n := hSl'.below ((Below.refl _ _).drew)
                  subst ha
                  clear hxl
                  go_wp2_with fail
                  go_region_held3 (fun w' => w'.cell? ⟨p, 0, none⟩ = some (.slice (some ⟨F, 0, none⟩) 5 5) ∧ w'.cell? ⟨p, 1, none⟩ = some (.slice (some ⟨G, 0, none⟩) k k) ∧ w'.cell? ⟨p', 0, none⟩ = some (.slice (some ⟨F', 0, none⟩) 5 5) ∧ w'.cell? ⟨p', 1, none⟩ = some (.slice (some ⟨G', 0, none⟩) (k + 1) (k + 1)) ∧ w'.cell? ⟨b, off + l * 5, none⟩ = some (.string (R l).name) ∧ w'.cell? ⟨b, off + l * 5 + 1, none⟩ = some (.string (R l).address) ∧ w'.cell? ⟨b, off + l * 5 + 2, none⟩ = some (.string (R l).mode) ∧ w'.cell? ⟨b, off + l * 5 + 3, none⟩ = some (.string (R l).status) ∧ w'.cell? ⟨b, off + l * 5 + 4, none⟩ = some (.int .i64 (R l).ts))
                    (go_keep) ((first | (go_at_call_of 20 (Value.slice (some (Addr.mk G 0 none)) k k); refine (showsRow_any F G k l n R wr.drew hSd hlt).mono ?_; rintro e wA ⟨rfl, hbA⟩; obtain ⟨s0, s1, s2, s3, s4, s5, s6, s7, s8⟩ := nine (w := wr) (hdr.trans hbA) y0 y1 y2 y3 g0 g1 g2 g3 g4) | (go_at_call_of 20 (some (Addr.mk G' 0 none)); refine (showsRow_any F' G' (k + 1) l n R wA (hSd'.below hbA) (by omega)).mono ?_; rintro e wB ⟨rfl, hbB⟩; obtain ⟨t0, t1, t2, t3, t4, t5, t6, t7, t8⟩ := nine hbB s0 s1 s2 s3 s4 s5 s6 s7 s8)))
                  have hbn : Below w10.heap.size w10 wB := (hbl'.trans ((hdr.trans hbA).mono hbl'.size)).trans (hbB.mono (Nat.le_trans hbl'.size hbA.size))
                  clear g0 g1 g2 g3 g4 y0 y1 y2 y3 s0 s1 s2 s3 s4 s5 s6 s7 s8 t0 t1 t2 t3 t4 t5 t6 t7 t8 hSd hSd' hbA hbB hdr hSl hSl' hpl hpl' hwl
                  go_wp2_with fail
                  go_roundw
                  case rel => exact ⟨l + 1, by omega, by go_num, hbn⟩
                  case measure => simp [intOf]; omega
                · have e : l = k := by omega
                  subst e
                  obtain ⟨q0, q1, q2, q3, q4⟩ := xcells hxl
                  go_wp2_with fail
                  refine (showsRow_any F' G' (l + 1) l n R _ hSl' (by omega)).mono ?_
                  rintro e wz ⟨rfl, hbz⟩
                  go_wp2_with fail
                  go_ret
                  exact ⟨rfl, hwl.trans (hbz.mono hwl.size)⟩

end Go.Proofs.Qxb6613399a.Show
