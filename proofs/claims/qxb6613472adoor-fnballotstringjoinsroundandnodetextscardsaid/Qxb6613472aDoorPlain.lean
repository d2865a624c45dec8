/- THE PLAIN LAW: a uint64's shortest decimal numeral reads back. No Go in sight. -/
import Derived.Lib.ItoaNum
namespace Go.Proofs.Qxb6613472aDoor.Plain
open Go.Lib

/-- The number that a list of digits reads as. -/
def val (l : List UInt8) : Nat := l.foldl (fun v c => v * 10 + (c.toNat - 48)) 0

theorem val_snoc (l : List UInt8) (c : UInt8) : val (l ++ [c]) = val l * 10 + (c.toNat - 48) := by simp [val]

theorem dec_small {u : Nat} (h : u < 10) : decDigits u = [UInt8.ofNat (48 + u)] := by rw [decDigits, dif_pos h]
theorem dec_big {u : Nat} (h : ¬ u < 10) : decDigits u = decDigits (u / 10) ++ [UInt8.ofNat (48 + u % 10)] := by rw [decDigits, dif_neg h]

theorem digit_toNat {d : Nat} (h : d < 10) : (UInt8.ofNat (48 + d)).toNat = 48 + d := by
  simp; omega

theorem dec_digit (u : Nat) : ∀ c ∈ decDigits u, 48 ≤ c.toNat ∧ c.toNat ≤ 57 := by
  induction u using Nat.strongRecOn with
  | ind u ih =>
    by_cases h : u < 10
    · rw [dec_small h]
      intro c hc
      simp only [List.mem_singleton] at hc
      subst hc
      rw [digit_toNat h]; omega
    · rw [dec_big h]
      intro c hc
      simp only [List.mem_append, List.mem_singleton] at hc
      rcases hc with hc | hc
      · exact ih (u / 10) (by omega) c hc
      · subst hc
        rw [digit_toNat (by omega)]; omega

theorem val_dec (u : Nat) : val (decDigits u) = u := by
  induction u using Nat.strongRecOn with
  | ind u ih =>
    by_cases h : u < 10
    · rw [dec_small h]
      simp only [val, List.foldl_cons, List.foldl_nil, digit_toNat h]
      omega
    · rw [dec_big h, val_snoc, ih (u / 10) (by omega), digit_toNat (by omega)]
      omega

theorem dec_inj {a b : Nat} (h : decDigits a = decDigits b) : a = b := by rw [← val_dec a, ← val_dec b, h]

theorem dec_pos (u : Nat) : 0 < (decDigits u).length := by
  by_cases h : u < 10
  · rw [dec_small h]; simp
  · rw [dec_big h]; simp

/-- No leading zero, but in "0" itself. -/
theorem dec_head (u : Nat) (hu : 1 ≤ u) : ∀ c, (decDigits u)[0]? = some c → c.toNat ≠ 48 := by
  induction u using Nat.strongRecOn with
  | ind u ih =>
    by_cases h : u < 10
    · rw [dec_small h]
      intro c hc
      simp only [List.getElem?_cons_zero, Option.some.injEq] at hc
      subst hc
      rw [digit_toNat h]; omega
    · rw [dec_big h]
      intro c hc
      have hp := dec_pos (u / 10)
      rw [List.getElem?_append_left hp] at hc
      exact ih (u / 10) (by omega) (by omega) c hc

theorem dec_head_long (u : Nat) (hl : 1 < (decDigits u).length) : ∀ c, (decDigits u)[0]? = some c → c.toNat ≠ 48 := by
  refine dec_head u ?_
  by_cases h : u = 0
  · subst h; rw [dec_small (by omega)] at hl; simp at hl
  · omega

theorem val_foldl_le (l : List UInt8) (v : Nat) : v ≤ l.foldl (fun v c => v * 10 + (c.toNat - 48)) v := by
  induction l generalizing v with
  | nil => simp
  | cons c l ih =>
    simp only [List.foldl_cons]
    have := ih (v * 10 + (c.toNat - 48))
    omega

theorem val_take_le (l : List UInt8) (k : Nat) : val (l.take k) ≤ val l := by
  have h : val l = (l.drop k).foldl (fun v c => v * 10 + (c.toNat - 48)) (val (l.take k)) := by
    unfold val
    rw [← List.foldl_append, List.take_append_drop]
  rw [h]
  exact val_foldl_le _ _

theorem dec_no_dot (u : Nat) : ∀ c ∈ decDigits u, c.toNat ≠ 46 := fun c hc => by have := dec_digit u c hc; omega

theorem dec_len_le (u : Nat) (h : u < 18446744073709551616) : (decDigits u).length ≤ 20 := by
  rw [decDigits_length]
  by_cases h1 : 1 ≤ u
  · have := numDigits_eq u h1 h; split at this <;> omega
  · have : u = 0 := by omega
    subst this
    rw [nDigits_small (by omega)]; omega

/-- The text of a ballot. -/
def txt (r n : Nat) : List UInt8 := decDigits r ++ 46 :: decDigits n

theorem txt_inj {r n q m : Nat} (h : txt r n = txt q m) : r = q ∧ n = m := by
  unfold txt at h
  have key : ∀ (a b c d : List UInt8), (∀ x ∈ a, x.toNat ≠ 46) → (∀ x ∈ c, x.toNat ≠ 46) → a ++ 46 :: b = c ++ 46 :: d → a = c ∧ b = d := by
    intro a
    induction a with
    | nil =>
      intro b c d _ hc he
      cases c with
      | nil => simpa using he
      | cons y c =>
        simp only [List.nil_append, List.cons_append, List.cons.injEq] at he
        exact absurd (by rw [← he.1]; decide) (hc y (by simp))
    | cons x a ih =>
      intro b c d ha hc he
      cases c with
      | nil =>
        simp only [List.nil_append, List.cons_append, List.cons.injEq] at he
        exact absurd (by rw [he.1]; decide) (ha x (by simp))
      | cons y c =>
        simp only [List.cons_append, List.cons.injEq] at he
        obtain ⟨h1, h2⟩ := ih b c d (fun z hz => ha z (by simp [hz])) (fun z hz => hc z (by simp [hz])) he.2
        exact ⟨by rw [he.1, h1], h2⟩
  obtain ⟨h1, h2⟩ := key _ _ _ _ (dec_no_dot r) (dec_no_dot q) h
  exact ⟨dec_inj h1, dec_inj h2⟩

end Go.Proofs.Qxb6613472aDoor.Plain
