/- COUNTING, with no Go in sight: how many of the members f 0, .., f (n - 1) are among the nodes. -/
import Derived.Lib.ItoaNum
namespace Go.Proofs.Qxb6613472a.Plain

/-- How many i below n say yes. -/
def cnt (p : Nat → Bool) : Nat → Nat
  | 0 => 0
  | n + 1 => cnt p n + if p n then 1 else 0

theorem cnt_le (p : Nat → Bool) (n : Nat) : cnt p n ≤ n := by
  induction n with
  | zero => exact Nat.le_refl _
  | succ n ih => simp only [cnt]; split <;> omega

theorem cnt_congr {p q : Nat → Bool} {n : Nat} (h : ∀ i, i < n → p i = q i) : cnt p n = cnt q n := by
  induction n with
  | zero => rfl
  | succ n ih => simp only [cnt]; rw [ih (fun i hi => h i (by omega)), h n (by omega)]

theorem cnt_mono {p q : Nat → Bool} {n : Nat} (h : ∀ i, i < n → p i = true → q i = true) : cnt p n ≤ cnt q n := by
  induction n with
  | zero => exact Nat.le_refl _
  | succ n ih =>
    simp only [cnt]
    have := ih (fun i hi => h i (by omega))
    by_cases hp : p n = true
    · rw [if_pos hp, if_pos (h n (by omega) hp)]; omega
    · rw [if_neg hp]; omega

/-- Where just one place more says yes, the count is one more. -/
theorem cnt_one {p q : Nat → Bool} {n k : Nat} (hk : k < n) (hp : p k = false) (hq : q k = true) (h : ∀ i, i < n → i ≠ k → q i = p i) : cnt q n = cnt p n + 1 := by
  induction n with
  | zero => omega
  | succ n ih =>
    simp only [cnt]
    by_cases e : k = n
    · subst e
      rw [hp, hq, cnt_congr (fun i hi => h i (by omega) (by omega))]
      simp
    · rw [ih (by omega) (fun i hi hik => h i (by omega) hik), h n (by omega) (by omega)]
      omega

/-- Of the members how many are among the nodes. -/
def hits (f : Nat → Int) (n : Nat) (l : List Int) : Nat := cnt (fun i => decide (f i ∈ l)) n

theorem hits_nil (f : Nat → Int) (n : Nat) : hits f n [] = 0 := by
  unfold hits
  induction n with
  | zero => rfl
  | succ n ih => simp only [cnt]; rw [ih]; simp

theorem hits_le (f : Nat → Int) (n : Nat) (l : List Int) : hits f n l ≤ n := cnt_le _ _

theorem hits_sub {f : Nat → Int} {n : Nat} {l m : List Int} (h : ∀ x, x ∈ l → x ∈ m) : hits f n l ≤ hits f n m :=
  cnt_mono fun i _ hi => by simpa using h _ (by simpa using hi)

theorem hits_same {f : Nat → Int} {n : Nat} {l m : List Int} (h : ∀ x, x ∈ l ↔ x ∈ m) : hits f n l = hits f n m :=
  cnt_congr fun i _ => by rw [decide_eq_decide]; exact h _

theorem incr_lt {n : Nat} {f : Nat → Int} (h : ∀ i, i + 1 < n → f i < f (i + 1)) : ∀ (d i : Nat), i + d + 1 < n → f i < f (i + d + 1)
  | 0, i, hi => h i hi
  | d + 1, i, hi => by
    have h1 := incr_lt h d i (by omega)
    have h2 := h (i + d + 1) (by omega)
    exact Int.lt_trans h1 h2

theorem incr_inj {n : Nat} {f : Nat → Int} (h : ∀ i, i + 1 < n → f i < f (i + 1)) {i j : Nat} (hi : i < n) (hj : j < n) (e : f i = f j) : i = j := by
  by_cases h1 : i < j
  · obtain ⟨d, rfl⟩ : ∃ d, j = i + d + 1 := ⟨j - i - 1, by omega⟩
    have := incr_lt h d i hj
    omega
  · by_cases h2 : j < i
    · obtain ⟨d, rfl⟩ : ∃ d, i = j + d + 1 := ⟨i - j - 1, by omega⟩
      have := incr_lt h d j hi
      omega
    · omega

theorem incr_le {n : Nat} {f : Nat → Int} (h : ∀ i, i + 1 < n → f i < f (i + 1)) {i j : Nat} (hij : i ≤ j) (hj : j < n) : f i ≤ f j := by
  by_cases e : i = j
  · subst e; exact Int.le_refl _
  · obtain ⟨d, rfl⟩ : ∃ d, j = i + d + 1 := ⟨j - i - 1, by omega⟩
    exact Int.le_of_lt (incr_lt h d i hj)

/-- A node that is no member: nothing changes. -/
theorem hits_other {f : Nat → Int} {n : Nat} {l : List Int} {x : Int} (h : ∀ i, i < n → f i ≠ x) : hits f n (l ++ [x]) = hits f n l :=
  cnt_congr fun i hi => by
    rw [decide_eq_decide]
    simp only [List.mem_append, List.mem_singleton]
    exact ⟨fun h' => h'.elim id (fun e => absurd e (h i hi)), .inl⟩

/-- A member that was found before: nothing changes. -/
theorem hits_again {f : Nat → Int} {n : Nat} {l : List Int} {x : Int} (h : x ∈ l) : hits f n (l ++ [x]) = hits f n l :=
  hits_same fun y => by
    simp only [List.mem_append, List.mem_singleton]
    exact ⟨fun h' => h'.elim id (fun e => e ▸ h), .inl⟩

/-- A member found for the first time: one more. -/
theorem hits_new {f : Nat → Int} {n : Nat} {l : List Int} {x : Int} {k : Nat} (hinc : ∀ i, i + 1 < n → f i < f (i + 1)) (hk : k < n) (e : f k = x) (h : ¬ x ∈ l) : hits f n (l ++ [x]) = hits f n l + 1 := by
  refine cnt_one hk ?_ ?_ ?_
  · simp only [e]; simpa using h
  · simp [e]
  · intro i hi hik
    rw [decide_eq_decide]
    simp only [List.mem_append, List.mem_singleton]
    refine ⟨fun h' => h'.elim id (fun e' => absurd (incr_inj hinc hi hk (e'.trans e.symm)) hik), .inl⟩

end Go.Proofs.Qxb6613472a.Plain
