/- BinarySearch over increasing members; present; holdsQuorum. -/
import Derived.Test.Qxb6613472aBase
import Derived.Test.Qxb6613472aPlain
namespace Go.Proofs.Qxb6613472a.Base
open Go.RowKit Go.Deep Go.WideShapes Go.Proofs.Qxb6613472a.Plain
set_option linter.unusedVariables false
set_option maxRecDepth 100000

/-- Found at k; or nowhere. -/
def SearchPost (w : World) (n : Nat) (f : Nat → Int) (q : Int) (e : Ending) (w' : World) : Prop :=
  ((∃ k : Nat, k < n ∧ f k = q ∧ e = .returned (.tuple #[.int .i64 k, .bool true])) ∨ (∃ k : Nat, (∀ i, i < n → f i ≠ q) ∧ e = .returned (.tuple #[.int .i64 k, .bool false]))) ∧ w' = w

set_option maxHeartbeats 1000000 in
theorem search_any (a : Option Addr) (n cap b off : Nat) (f : Nat → Int) (q : Int) (w : World) (hn : n ≤ 1048576) (h : Row w a n b off f) (hinc : Incr n f) :
    Calls Try.prog 21 #[.slice a n cap, .int .u64 q] w fun e w' => SearchPost w n f q e w' := by
  go_enter Try.func21, Try.ntmps21
  go_wp2_with fail
  go_loop [7, 8, 9] (fun i j _ => ∃ lo hi : Nat, lo ≤ hi ∧ hi ≤ n ∧ i = .int .i64 lo ∧ j = .int .i64 hi ∧ (∀ l, l < lo → f l < q) ∧ (∀ l, hi ≤ l → l < n → q ≤ f l)) (fun i j _ => (intOf j).toNat - (intOf i).toNat)
  case atStart => exact ⟨0, n, Nat.zero_le _, Nat.le_refl _, rfl, rfl, fun l hl => absurd hl (Nat.not_lt_zero _), fun l h1 h2 => absurd h1 (by omega)⟩
  case round =>
    obtain ⟨lo, hi, h1, h2, rfl, rfl, hlo, hhi⟩ := hrel
    by_cases hlt : lo < hi
    · have ha := h.addr (by omega)
      obtain ⟨m, hm⟩ : ∃ m, m = (lo + hi) / 2 := ⟨_, rfl⟩
      have g := h.cell m (by omega)
      have hm2 : ((lo : Int) + (hi : Int)) / 2 = (m : Int) := by omega
      have hm3 : lo ≤ m := by omega
      have hm4 : m < hi := by omega
      have hm5 : (m : Int) < (n : Int) := by omega
      subst ha
      clear h hm
      go_wp2_with fail
      refine (less_any _ _ _).mono ?_
      rintro e w' ⟨rfl, rfl⟩
      by_cases hq : f m < q
      · go_wp2_with fail
        go_round
        case rel => exact ⟨m + 1, hi, by omega, h2, by go_num, rfl, fun l hl => Int.lt_of_le_of_lt (incr_le hinc (show l ≤ m by omega) (by omega)) hq, hhi⟩
        case measure => simp [intOf]; omega
      · go_wp2_with fail
        go_round
        case rel => exact ⟨lo, m, by omega, by omega, rfl, rfl, hlo, fun l hl1 hl2 => Int.le_trans hq (incr_le hinc hl1 hl2)⟩
        case measure => simp [intOf]; omega
    · have e : lo = hi := by omega
      subst e
      clear h1 hlt
      by_cases hn2 : lo < n
      · have ha := h.addr (by omega)
        have g := h.cell lo hn2
        have g2 : (lo : Int) < (n : Int) := by omega
        subst ha
        by_cases hq : f lo = q
        · have hq2 : (f lo == q) = true := by rw [beq_iff_eq]; exact hq
          clear h
          go_wp2_with fail
          go_ret2
          exact ⟨.inl ⟨lo, hn2, hq, rfl⟩, rfl⟩
        · have hq2 : (f lo == q) = false := by rw [beq_eq_false_iff_ne]; exact hq
          have hno : ∀ i, i < n → f i ≠ q := fun i hi => by
            by_cases h3 : i < lo
            · have := hlo i h3; omega
            · by_cases h4 : i = lo
              · subst h4; exact hq
              · have h5 := hhi lo (Nat.le_refl _) hn2
                have h6 := incr_le hinc (show lo ≤ i by omega) hi
                have h7 : f lo ≠ f i := fun e => h4 (incr_inj hinc hn2 hi e).symm
                omega
          clear h hq
          go_wp2
          go_ret2
          exact ⟨.inr ⟨lo, hno, rfl⟩, rfl⟩
      · have hno : ∀ i, i < n → f i ≠ q := fun i hi => by have := hlo i (by omega); omega
        have g2 : decide ((lo : Int) < (n : Int)) = false := decide_eq_false (by omega)
        clear h
        go_wp2
        go_ret2
        exact ⟨.inr ⟨lo, hno, rfl⟩, rfl⟩

/-- The nodes g 0, .., g (k - 1). -/
def upto (g : Nat → Int) (k : Nat) : List Int := (List.range k).map g
theorem upto_succ (g : Nat → Int) (k : Nat) : upto g (k + 1) = upto g k ++ [g k] := by simp [upto, List.range_succ]
theorem upto_length (g : Nat → Int) (k : Nat) : (upto g k).length = k := by simp [upto]
theorem mem_upto {g : Nat → Int} {k : Nat} {x : Int} : x ∈ upto g k ↔ ∃ i, i < k ∧ g i = x := by simp [upto]

theorem cnt_step (p : Nat → Bool) (n : Nat) : cnt p (n + 1) = cnt p n + if p n then 1 else 0 := rfl

set_option maxHeartbeats 1000000 in
theorem present_any (a : Option Addr) (n ca b off : Nat) (f : Nat → Int) (a' : Option Addr) (m cb b' off' : Nat) (g : Nat → Int) (w : World) (hn : n ≤ 1048576) (hm : m ≤ 1048576) (h : Row w a n b off f) (h' : Row w a' m b' off' g) :
    Calls Try.prog 15 #[.slice a n ca, .slice a' m cb] w fun e w' => e = .returned (.int .i64 (hits f n (upto g m))) ∧ ∃ q, w' = w.drewN q := by
  go_enter Try.func15, Try.ntmps15
  go_wp2
  go_loopw [5, 6, 7] (fun c i _ wr => ∃ (k q : Nat), k ≤ n ∧ i = .int .i64 k ∧ c = .int .i64 (cnt (fun i => decide (f i ∈ upto g m)) k) ∧ wr = w.drewN q) (fun _ i _ _ => n - (intOf i).toNat)
  case atStart => exact ⟨0, 0, Nat.zero_le _, rfl, rfl, drew_zero w⟩
  case round =>
    obtain ⟨k, q, hk, rfl, rfl, rfl⟩ := hrel
    have hc := cnt_le (fun i => decide (f i ∈ upto g m)) k
    by_cases hlt : k < n
    · obtain ⟨c, hcc⟩ : ∃ c : Nat, c = cnt (fun i => decide (f i ∈ upto g m)) k := ⟨_, rfl⟩
      have hst := cnt_step (fun i => decide (f i ∈ upto g m)) k
      rw [← hcc] at hst hc ⊢
      have HS : Hid _ := hst
      have ha := h.addr (by omega)
      have g0 := h.cell k hlt
      have g1 : (k : Int) < (n : Int) := by omega
      subst ha
      clear hst hcc h
      go_wp2
      go_loopw [5, 7] (fun c' j wr => ∃ (l r : Nat), l ≤ m ∧ j = .int .i64 l ∧ c' = .int .i64 c ∧ wr = w.drewN r ∧ ∀ i, i < l → g i ≠ f k) (fun _ j _ => m - (intOf j).toNat)
      case atStart => exact ⟨0, q, Nat.zero_le _, rfl, rfl, rfl, fun i hi => absurd hi (Nat.not_lt_zero _)⟩
      case round =>
        obtain ⟨l, r, hl, rfl, rfl, rfl, hno⟩ := hrel
        by_cases hlm : l < m
        · have ha' := h'.addr (by omega)
          have g2 := h'.cell l hlm
          have g3 : (l : Int) < (m : Int) := by omega
          subst ha'
          by_cases he : g l = f k
          · have he2 : (g l == f k) = true := by rw [beq_iff_eq]; exact he
            have hmem : f k ∈ upto g m := mem_upto.2 ⟨l, hlm, he⟩
            clear h' hno he
            go_wp2
            go_quiet (fail)
            go_wp2
            go_roundw
            case rel => exact ⟨k + 1, _, by omega, by go_num, by rw [HS.out, if_pos (by simpa using hmem)]; go_num, rfl⟩
            case measure => simp [intOf]; omega
          · have he2 : (g l == f k) = false := by rw [beq_eq_false_iff_ne]; exact he
            clear h'
            go_wp2
            go_quiet (fail)
            go_wp2
            go_roundw
            case rel =>
              refine ⟨l + 1, _, by omega, by go_num, rfl, rfl, fun i hi => ?_⟩
              by_cases e : i = l
              · subst e; exact he
              · exact hno i (by omega)
            case measure => simp [intOf]; omega
        · have hmem : ¬ f k ∈ upto g m := fun hx => by
            obtain ⟨i, hi, e⟩ := mem_upto.1 hx
            exact hno i (by omega) e
          clear h'
          go_wp2
          go_roundw
          case rel => exact ⟨k + 1, _, by omega, by go_num, by rw [HS.out, if_neg (by simpa using hmem)]; rfl, rfl⟩
          case measure => simp [intOf]; omega
    · have e : k = n := by omega
      subst e
      clear h h'
      go_wp2
      go_ret
      exact ⟨rfl, _, rfl⟩

/-- Do the nodes hold a quorum of the members. -/
def quorum (f : Nat → Int) (n : Nat) (size : Int) (l : List Int) : Bool := decide (need size n ≤ (hits f n l : Int))

theorem quorum_pos {f : Nat → Int} {n : Nat} {size : Int} {l : List Int} (h : 0 < size) : decide (size ≤ (hits f n l : Int)) = quorum f n size l := by
  unfold quorum need; rw [if_pos h]
theorem quorum_zero {f : Nat → Int} {n : Nat} {size : Int} {l : List Int} (h : ¬ 0 < size) : decide ((n : Int) < 2 * (hits f n l : Int)) = quorum f n size l := by
  unfold quorum need; rw [if_neg h, decide_eq_decide]; omega

theorem ret_bool {a b : Bool} (h : a = b) : Ending.returned (.bool a) = .returned (.bool b) := by rw [h]

set_option maxHeartbeats 400000 in
theorem holds_any (a : Option Addr) (n ca b off : Nat) (f : Nat → Int) (size : Int) (a' : Option Addr) (m cb b' off' : Nat) (g : Nat → Int) (w : World) (hn : n ≤ 1048576) (hm : m ≤ 1048576) (h : Row w a n b off f) (h' : Row w a' m b' off' g) :
    Calls Try.prog 10 #[.slice a n ca, .int .i64 size, .slice a' m cb] w fun e w' => e = .returned (.bool (quorum f n size (upto g m))) ∧ ∃ q, w' = w.drewN q := by
  have hle := hits_le f n (upto g m)
  by_cases hs : 0 < size
  · have HQ : Hid _ := quorum_pos (f := f) (n := n) (l := upto g m) hs
    go_enter Try.func10, Try.ntmps10
    go_wp2_with fail
    refine (present_any a n ca b off f a' m cb b' off' g _ hn hm h h').mono ?_
    rintro e w' ⟨rfl, q, rfl⟩
    go_wp2
    go_ret
    exact ⟨ret_bool HQ.out, _, rfl⟩
  · have HQ : Hid _ := quorum_zero (f := f) (n := n) (l := upto g m) hs
    go_enter Try.func10, Try.ntmps10
    go_wp2_with fail
    refine (present_any a n ca b off f a' m cb b' off' g _ hn hm h h').mono ?_
    rintro e w' ⟨rfl, q, rfl⟩
    go_wp2
    go_ret
    exact ⟨ret_bool HQ.out, _, rfl⟩

end Go.Proofs.Qxb6613472a.Base
