/- Slices of a slice, and appends with room. -/
import Derived.Test.Qxb6613472aLaw3
import Derived.Deep.AppendSrc
namespace Go.Proofs.Qxb6613472a.Cur
open Go Go.RowKit Go.Deep Go.WideShapes Go.Proofs.Qxb6613472a.Base Go.Proofs.Qxb6613472a.Plain
set_option linter.unusedVariables false
set_option maxRecDepth 100000

theorem make_room (n : Nat) (hn : n ≤ 1048576) (w : World) :
    (Instr.makeSlice 23 (.int .i64 0) (.int .i64 n)).run Try.prog w = .ok (.slice (some ⟨w.heap.size, 0, none⟩) 0 n) (w.alloc (.cells (madeCells #[.int .u64 0] n) 22)) := by
  obtain ⟨i, hi, hzz⟩ := Option.map_eq_some_iff.1 info22
  simp only [Prod.mk.injEq] at hzz
  obtain ⟨hz, hs, hb⟩ := hzz
  have hr := run_make (P := Try.prog) w 23 22 i (.int .u64 0) Try.underlying23 hi hz .i64 .i64 0 n (by omega) (by omega) (by rw [hb]; omega) (by omega)
  simp only [Int.toNat_natCast, hs, Nat.mul_one] at hr
  exact hr

theorem size_one (w : World) : (sizeOf (Try.prog.elem 23)).run Try.prog w = .ok 1 w := by simp [go_sem]

/-- nodes[k:] -/
theorem sub_from (x : Option Addr) (n k : Nat) (hk : k ≤ n) :
    ∃ y, (∀ w, (Instr.slice 23 (.slice x n n) (some (.int .i64 k)) none none).run Try.prog w = .ok (.slice y (n - k) (n - k)) w) ∧
      ∀ (W : World) (b : Nat) (g : Nat → Int), Row W x n b 0 g → Row W y (n - k) b k (fun i => g (k + i)) := by
  refine ⟨if n = k then x else x.map (·.add (k * 1)), fun w => ?_, fun W b g h => ⟨fun hl => ?_, fun i hi => ?_⟩⟩
  · rw [run_slice_l (P := Try.prog) w 23 x n n Try.underlying23 .i64 k (by omega) (by omega), size_one]
    rfl
  · rw [if_neg (by omega), h.addr (by omega)]
    simp [Addr.add]
    exact fun h => h.symm
  · rw [← h.cell (k + i) (by omega)]
    congr 2; omega

/-- nodes[:k] -/
theorem sub_upto (x : Option Addr) (n k : Nat) (hk : k ≤ n) :
    ∃ y, (∀ w, (Instr.slice 23 (.slice x n n) none (some (.int .i64 k)) none).run Try.prog w = .ok (.slice y k n) w) ∧
      ∀ (W : World) (b : Nat) (g : Nat → Int), Row W x n b 0 g → Row W y k b 0 g := by
  refine ⟨if n = 0 then x else x.map (·.add (0 * 1)), fun w => ?_, fun W b g h => ⟨fun hl => ?_, fun i hi => h.cell i (by omega)⟩⟩
  · rw [run_slice_h (P := Try.prog) w 23 x n n Try.underlying23 .i64 k (by omega) (by omega), size_one]
    rfl
  · rw [if_neg (by omega), h.addr (by omega)]
    simp [Addr.add]

def vals (g : Nat → Int) (m : Nat) : List Value := (List.range m).map fun i => .int .u64 (g i)
theorem vals_length (g : Nat → Int) (m : Nat) : (vals g m).length = m := by simp [vals]
theorem vals_get (g : Nat → Int) (m i : Nat) (h : i < (vals g m).length) : (vals g m)[i] = .int .u64 (g i) := by simp [vals]

/-- Room in a row of the call's own. -/
def Room (W : World) (T n : Nat) : Prop := ∀ j, j < n → (W.cell? ⟨T, j, none⟩).isSome = true ∧ W.frozen? ⟨T, j, none⟩ = false

theorem src_of (W : World) (y : Option Addr) (m c b off : Nat) (g : Nat → Int) (h : Row W y m b off g) : Src Try.prog 1 23 (.slice y m c) m (vals g m) W := by
  by_cases h0 : m = 0
  · subst h0
    cases y with
    | none => exact Src.ofNil W Try.underlying23 c
    | some x => exact Src.ofSlice W Try.underlying23 x 0 c _ (by simp [vals]) (fun j u hj => by simp [vals] at hj) (fun u hu => by simp [vals] at hu)
  · rw [h.addr (by omega)]
    refine Src.ofSlice W Try.underlying23 _ m c _ (by rw [vals_length, Nat.mul_one]) (fun j u hj => ?_) (fun u hu => ?_)
    · obtain ⟨hj1, hj2⟩ := List.getElem?_eq_some_iff.1 hj
      rw [add_plain, h.cell j (by rw [vals_length] at hj1; exact hj1), ← hj2, vals_get]
    · obtain ⟨i, _, rfl⟩ := List.mem_map.1 hu
      rfl

theorem app_run (W : World) (ty : TypeId) (T s cap : Nat) (y : Option Addr) (m c b off : Nat) (g : Nat → Int) (h : Row W y m b off g) (hroom : s + m ≤ cap) (hR : Room W T cap) :
    (Builtin.append_ #[23, 23] ty #[.slice (some ⟨T, 0, none⟩) s cap, .slice y m c]).run Try.prog W = .ok (.slice (some ⟨T, 0, none⟩) (s + m) cap) (W.setCells T s (vals g m)) := by
  obtain ⟨i, hi, hsz⟩ := Option.map_eq_some_iff.1 size22
  have hs := src_of W y m c b off g h
  rw [← hsz] at hs
  have hr := run_append_room_src (P := Try.prog) W 23 23 ty 22 i Try.underlying23 hi T 0 s cap (.slice y m c) m (vals g m) hs hroom
    (fun j hj => by rw [vals_length] at hj; rw [hsz, Nat.zero_add, Nat.mul_one]; exact (hR _ (by omega)).1)
    (fun j hj => by rw [vals_length] at hj; rw [hsz, Nat.zero_add, Nat.mul_one]; exact (hR _ (by omega)).2)
  rw [hsz, Nat.zero_add, Nat.mul_one] at hr
  exact hr

theorem Room.set {W : World} {T n s : Nat} {vs : List Value} (h : Room W T n) (hs : s + vs.length ≤ n) : Room (W.setCells T s vs) T n := fun j hj => by
  refine ⟨?_, by rw [World.frozen?_setCells]; exact (h j hj).2⟩
  by_cases hin : s ≤ j ∧ j < s + vs.length
  · obtain ⟨i, rfl⟩ : ∃ i, j = s + i := ⟨j - s, by omega⟩
    rw [World.cell?_setCells_in T vs s W (fun i hi => (h (s + i) (by omega)).1) i (by omega)]
    rfl
  · rw [World.cell?_setCells_out T vs s W _ (fun _ _ => by show j < s ∨ s + vs.length ≤ j; omega)]
    exact (h j hj).1

/-- The nodes, turned. -/
def turn (g : Nat → Int) (n k : Nat) : Nat → Int := fun i => if i < n - k then g (k + i) else g (i - (n - k))

theorem mem_turn {g : Nat → Int} {n k : Nat} (hk : k ≤ n) (x : Int) : x ∈ upto (turn g n k) n ↔ x ∈ upto g n := by
  rw [mem_upto, mem_upto]
  unfold turn
  constructor
  · rintro ⟨i, hi, e⟩
    by_cases h : i < n - k
    · rw [if_pos h] at e; exact ⟨k + i, by omega, e⟩
    · rw [if_neg h] at e; exact ⟨i - (n - k), by omega, e⟩
  · rintro ⟨i, hi, e⟩
    by_cases h : i < k
    · exact ⟨n - k + i, by omega, by rw [if_neg (by omega), show n - k + i - (n - k) = i by omega]; exact e⟩
    · exact ⟨i - k, by omega, by rw [if_pos (by omega), show k + (i - k) = i by omega]; exact e⟩

/-- Both appends. -/
theorem turned (W : World) (T n k : Nat) (g : Nat → Int) (hk : k ≤ n) (hR : Room W T n) :
    Row ((W.setCells T 0 (vals (fun i => g (k + i)) (n - k))).setCells T (n - k) (vals g k)) (some ⟨T, 0, none⟩) n T 0 (turn g n k) := by
  have hR2 : Room (W.setCells T 0 (vals (fun i => g (k + i)) (n - k))) T n := hR.set (by rw [vals_length]; omega)
  refine ⟨fun _ => rfl, fun i hi => ?_⟩
  rw [Nat.zero_add]
  unfold turn
  by_cases h : i < n - k
  · rw [if_pos h, World.cell?_setCells_out T _ (n - k) _ _ (fun _ _ => .inl h)]
    have := World.cell?_setCells_in T (vals (fun i => g (k + i)) (n - k)) 0 W (fun j hj => by rw [vals_length] at hj; rw [Nat.zero_add]; exact (hR j (by omega)).1) i (by rw [vals_length]; exact h)
    rw [Nat.zero_add, vals_get] at this
    exact this
  · obtain ⟨j, rfl⟩ : ∃ j, i = n - k + j := ⟨i - (n - k), by omega⟩
    rw [if_neg h, World.cell?_setCells_in T (vals g k) (n - k) _ (fun j hj => by rw [vals_length] at hj; exact (hR2 _ (by omega)).1) j (by rw [vals_length]; omega), vals_get]
    congr 3; omega

end Go.Proofs.Qxb6613472a.Cur
