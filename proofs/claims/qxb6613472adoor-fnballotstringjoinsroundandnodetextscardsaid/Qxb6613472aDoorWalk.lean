/- Ballot.String, cutAtDot, decimal. -/
import Derived.Test.Qxb6613472aDoorFmt
import Derived.Test.Qxb6613472aDoorPlain
import Derived.Deep.RegionHeld3
import Derived.Deep.RegionWith
import Derived.Deep.QuietTactic
import Derived.BigQuiet
import Derived.WalkSmall
namespace Go.Proofs.Qxb6613472aDoor.Walk
open Go.RowKit Go.Lib Go.Proofs.Qxb6613472aDoor.Plain
set_option linter.unusedVariables false
set_option maxRecDepth 100000

theorem tab_global : Tryd.prog.globalNamed Tryd.tabName = some 0 := by kernel_rfl

theorem tab_below {w w' : World} (h : TabIs Tryd.prog w Tryd.tabName .u64 pow10Tab) (hb : Below w.heap.size w w') : TabIs Tryd.prog w' Tryd.tabName .u64 pow10Tab := by
  have hg := tab_global
  have hc := h.cell hg 0 (by rw [pow10Tab_length]; omega)
  exact var?_below hb hg (World.block_lt_of_cell? _ _ hc) h

/-- A string of bytes. -/
def bs (l : List UInt8) : ByteArray := ⟨l.toArray⟩

theorem after {w w' : World} {a b : Addr} {x y : Value} (ha : w.cell? a = some x) (hb : w.cell? b = some y) (ht : TabIs Tryd.prog w Tryd.tabName .u64 pow10Tab) (h : Below w.heap.size w w') :
    w'.cell? a = some x ∧ w'.cell? b = some y ∧ TabIs Tryd.prog w' Tryd.tabName .u64 pow10Tab :=
  ⟨(h.cell (World.block_lt_of_cell? _ _ ha)).trans ha, (h.cell (World.block_lt_of_cell? _ _ hb)).trans hb, tab_below ht h⟩

set_option maxHeartbeats 1000000 in
theorem string_any (r n : Nat) (hr : r < 18446744073709551616) (hn : n < 18446744073709551616) (w : World) (htab : TabIs Tryd.prog w Tryd.tabName .u64 pow10Tab) :
    Calls Tryd.prog 5 #[.agg #[.int .u64 r, .int .u64 n]] w fun e w' => e = .returned (.string (bs (txt r n))) ∧ Below w.heap.size w w' := by
  have hb0 : Below w.heap.size w (w.alloc (.cells #[.int .u64 r, .int .u64 n] 24)).drew := ((Below.refl _ _).alloc (Nat.le_refl _) _).drew
  have ht0 := tab_below htab hb0
  have lr := dec_len_le r hr
  have ln := dec_len_le n hn
  have add1 : ∀ w, (Op.stringOp .add ⟨(decDigits r).toArray⟩ ⟨#[46]⟩).run Tryd.prog w = .ok (.string (bs (decDigits r ++ [46]))) w := fun w => run_string_add_lists w (decDigits r) [46] (by omega) (by simp)
  have add2 : ∀ w, (Op.stringOp .add (bs (decDigits r ++ [46])) ⟨(decDigits n).toArray⟩).run Tryd.prog w = .ok (.string (bs (txt r n))) w := fun w => by
    have h := run_string_add_lists (P := Tryd.prog) w (decDigits r ++ [46]) (decDigits n) (by simp; omega) (by omega)
    rw [List.append_assoc] at h
    exact h
  have c0 : (w.alloc (.cells #[.int .u64 r, .int .u64 n] 24)).drew.cell? ⟨w.heap.size, 0, none⟩ = some (.int .u64 r) := by simp
  have c1 : (w.alloc (.cells #[.int .u64 r, .int .u64 n] 24)).drew.cell? ⟨w.heap.size, 1, none⟩ = some (.int .u64 n) := by simp
  go_enter Tryd.func5, Tryd.ntmps5
  go_wp2
  go_region_held3 (fun w' => w'.cell? ⟨w.heap.size, 0, none⟩ = some (.int .u64 r) ∧ w'.cell? ⟨w.heap.size, 1, none⟩ = some (.int .u64 n)) (go_keep)
    ((first | (go_at_call_of 8 (Value.int IntKind.u64 (r : Int)); refine (Fmt.fmt_any r hr _ ?_).mono ?_; exact ht0; rintro e wA ⟨rfl, hbA⟩; obtain ⟨a0, a1, hta⟩ := after c0 c1 ht0 hbA) | (go_at_call_of 8 (Value.int IntKind.u64 (n : Int)); refine (Fmt.fmt_any n hn _ ?_).mono ?_; exact hta; rintro e wB ⟨rfl, hbB⟩; obtain ⟨b0, b1, htb⟩ := after a0 a1 hta hbB)))
  have hfin : Below w.heap.size w wB := (hb0.trans (hbA.mono hb0.size)).trans (hbB.mono (Nat.le_trans hb0.size hbA.size))
  go_wp2
  go_ret
  exact ⟨rfl, hfin⟩

theorem ret_three {a a' b b' : ByteArray} (h1 : a = a') (h2 : b = b') : Ending.returned (.tuple #[.string a, .string b, .bool true]) = .returned (.tuple #[.string a', .string b', .bool true]) := by rw [h1, h2]

theorem extract_head (s : ByteArray) (h t : List UInt8) (hs : s.data.toList = h ++ 46 :: t) : s.extract 0 h.length = bs h := by
  apply ByteArray.ext
  apply Array.ext'
  rw [ByteArray.data_extract]
  simp [hs, bs]

theorem extract_tail (s : ByteArray) (h t : List UInt8) (hs : s.data.toList = h ++ 46 :: t) : s.extract (h.length + 1) s.size = bs t := by
  apply ByteArray.ext
  apply Array.ext'
  have hl : s.size = (h ++ 46 :: t).length := by rw [← hs]; rfl
  rw [ByteArray.data_extract]
  rw [hl]
  simp [hs, bs]
  rw [List.take_of_length_le (by omega)]

theorem byte_at (s : ByteArray) (k : Nat) (hk : k < s.size) : s.data.toList[k]? = some s[k] := by
  have : k < s.data.toList.length := by simpa using hk
  rw [List.getElem?_eq_getElem this]
  rfl

theorem dot_at (s : ByteArray) (h t : List UInt8) (hs : s.data.toList = h ++ 46 :: t) (hh : ∀ c ∈ h, c.toNat ≠ 46) (ht : ∀ c ∈ t, c.toNat ≠ 46) (k : Nat) (hk : k < s.size) : s[k].toNat = 46 ↔ k = h.length := by
  have hb := byte_at s k hk
  rw [hs] at hb
  by_cases h1 : k < h.length
  · rw [List.getElem?_append_left h1] at hb
    have := hh _ (List.mem_of_getElem? hb)
    constructor
    · intro e; exact absurd e this
    · intro e; omega
  · by_cases h2 : k = h.length
    · subst h2
      rw [List.getElem?_append_right (Nat.le_refl _), Nat.sub_self] at hb
      simp only [List.getElem?_cons_zero, Option.some.injEq] at hb
      rw [← hb]
      simp
    · rw [List.getElem?_append_right (by omega)] at hb
      obtain ⟨j, hj⟩ : ∃ j, k - h.length = j + 1 := ⟨k - h.length - 1, by omega⟩
      rw [hj, List.getElem?_cons_succ] at hb
      have := ht _ (List.mem_of_getElem? hb)
      constructor
      · intro e; exact absurd e this
      · intro e; omega

set_option maxHeartbeats 1000000 in
theorem cut_any (s : ByteArray) (h t : List UInt8) (hs : s.data.toList = h ++ 46 :: t) (hh : ∀ c ∈ h, c.toNat ≠ 46) (ht : ∀ c ∈ t, c.toNat ≠ 46) (hl : h.length + t.length ≤ 1000) (w : World) :
    Calls Tryd.prog 6 #[.string s] w fun e w' => e = .returned (.tuple #[.string (bs h), .string (bs t), .bool true]) ∧ ∃ n, w' = w.drewN n := by
  have hz : s.size = h.length + t.length + 1 := by
    have : s.size = (h ++ 46 :: t).length := by rw [← hs]; rfl
    rw [this]; simp; omega
  have hget : ∀ k (hk : k < s.size), s[k].toNat = 46 ↔ k = h.length := dot_at s h t hs hh ht
  have HE : Hid (s.size = h.length + t.length + 1) := hz
  have hsz : s.size ≤ 1001 := by omega
  have hlt : h.length < s.size := by omega
  have e1 := extract_head s h t hs
  have e2 := extract_tail s h t hs
  have HE1 : Hid _ := e1
  have HE2 : Hid _ := e2
  clear hz e1 e2 hs hh ht
  generalize h.length = a at *
  go_enter Tryd.func6, Tryd.ntmps6
  go_wp2
  go_loop [5, 6] (fun at' i => ∃ k : Nat, k ≤ s.size ∧ i = .int .i64 k ∧ at' = .int .i64 (if k ≤ a then -1 else (a : Int))) (fun _ i => s.size - (RowKit.intOf i).toNat)
  case atStart => exact ⟨0, Nat.zero_le _, rfl, by simp⟩
  case round =>
    obtain ⟨k, hk, rfl, rfl⟩ := hrel
    by_cases hks : k < s.size
    · by_cases hka : k = a
      · subst hka
        have hq : ((s[k].toNat : Int) == 46) = true := by rw [beq_iff_eq]; have := (hget k hks).2 rfl; omega
        rw [if_pos (Nat.le_refl _)]
        clear hget
        go_wp2
        go_round
        case rel => exact ⟨k + 1, by omega, by go_num, by rw [if_neg (by omega)]⟩
        case measure => simp [RowKit.intOf]; omega
      · have hq : ((s[k].toNat : Int) == 46) = false := by rw [beq_eq_false_iff_ne]; intro e; exact hka ((hget k hks).1 (by omega))
        clear hget
        obtain ⟨v, hv⟩ : ∃ v : Int, v = if k ≤ a then -1 else (a : Int) := ⟨_, rfl⟩
        rw [← hv]
        have HV : Hid (v = if k ≤ a then -1 else (a : Int)) := hv
        clear hv
        go_wp2
        go_round
        case rel => exact ⟨k + 1, by omega, by go_num, by rw [HV.out]; by_cases h2 : k ≤ a; rw [if_pos h2, if_pos (by omega)]; rw [if_neg h2, if_neg (by omega)]⟩
        case measure => simp [RowKit.intOf]; omega
    · rw [if_neg (by omega)]
      clear hget
      go_wp2
      go_quiet (fail)
      go_wp2
      go_ret3
      exact ⟨ret_three HE1.out HE2.out, _, rfl⟩

theorem val_step (l : List UInt8) (k : Nat) (c : UInt8) (h : l[k]? = some c) : val (l.take (k + 1)) = val (l.take k) * 10 + (c.toNat - 48) := by
  rw [List.take_add_one, h]
  exact val_snoc _ _

theorem ret_num {a b : Int} (h : a = b) : Ending.returned (.tuple #[.int .u64 a, .bool true]) = .returned (.tuple #[.int .u64 b, .bool true]) := by rw [h]

set_option maxHeartbeats 1000000 in
theorem decimal_any (u : Nat) (hu : u < 18446744073709551616) (s : ByteArray) (hs : s.data.toList = decDigits u) (w : World) :
    Calls Tryd.prog 7 #[.string s] w fun e w' => e = .returned (.tuple #[.int .u64 u, .bool true]) ∧ w' = w := by
  have hz : s.size = (decDigits u).length := by rw [← hs]; rfl
  have hl := dec_len_le u hu
  have hp := dec_pos u
  rw [← hz] at hl hp
  have hn0 : ((s.size : Int) == 0) = false := by rw [beq_eq_false_iff_ne]; omega
  have hl20 : (s.size : Int) ≤ 20 := by omega
  have hdig : ∀ k (hk : k < s.size), 48 ≤ s[k].toNat ∧ s[k].toNat ≤ 57 := fun k hk => by
    have hb := byte_at s k hk
    rw [hs] at hb
    exact dec_digit u _ (List.mem_of_getElem? hb)
  have hstep : ∀ k (hk : k < s.size), val ((decDigits u).take (k + 1)) = val ((decDigits u).take k) * 10 + (s[k].toNat - 48) := fun k hk => val_step _ _ _ (by rw [← hs]; exact byte_at s k hk)
  have hle : ∀ k, val ((decDigits u).take k) ≤ u := fun k => by have := val_take_le (decDigits u) k; rwa [val_dec] at this
  have hend : val ((decDigits u).take s.size) = u := by rw [hz, List.take_length, val_dec]
  have h0 : val ((decDigits u).take 0) = 0 := rfl
  have hhead : 1 < s.size → ((s[0].toNat : Int) == 48) = false := fun h1 => by
    have hb := byte_at s 0 hp
    rw [hs] at hb
    have := dec_head_long u (by rw [← hz]; exact h1) _ hb
    rw [beq_eq_false_iff_ne]; omega
  obtain ⟨V, hV⟩ : ∃ V : Nat → Nat, V = fun k => val ((decDigits u).take k) := ⟨_, rfl⟩
  have hstep' : ∀ k (hk : k < s.size), V (k + 1) = V k * 10 + (s[k].toNat - 48) := by rw [hV]; exact hstep
  have hle' : ∀ k, V k ≤ u := by rw [hV]; exact hle
  have hend' : V s.size = u := by rw [hV]; exact hend
  have h0' : V 0 = 0 := by rw [hV]; exact h0
  clear hV hstep hle hend h0 hz hs
  by_cases h1 : 1 < s.size
  · have hh := hhead h1
    have h1' : (1 : Int) < (s.size : Int) := by omega
    clear hhead
    go_enter Tryd.func7, Tryd.ntmps7
    go_wp2
    go_loop [4, 5] (fun v i => ∃ (k : Nat) (x : Int), k ≤ s.size ∧ i = .int .i64 k ∧ v = .int .u64 x ∧ Hid (x = (V k : Int))) (fun _ i => s.size - (RowKit.intOf i).toNat)
    case atStart => exact ⟨0, 0, Nat.zero_le _, rfl, rfl, by show (0 : Int) = (V 0 : Int); rw [h0']; rfl⟩
    case round =>
      obtain ⟨k, x, hk, rfl, rfl, HX⟩ := hrel
      by_cases hks : k < s.size
      · have hs1 := hstep' k hks
        have hs2 := hle' (k + 1)
        have hd := hdig k hks
        obtain ⟨c, hc⟩ : ∃ c : Int, c = (s[k].toNat : Int) := ⟨_, rfl⟩
        have hx0 : 0 ≤ x := by rw [HX.out]; omega
        have hd1 : 48 ≤ c := by omega
        have hd2 : c ≤ 57 := by omega
        have hx1 : x * 10 + (c - 48) ≤ 18446744073709551615 := by rw [HX.out, hc]; omega
        have HN : Hid (x * 10 + (c - 48) = (V (k + 1) : Int)) := by show _ = _; rw [HX.out, hc]; omega
        have hcc : (s[k].toNat : Int) = c := hc.symm
        clear hs1 hs2 hd hdig hstep' hle' hend' h0' hc HX
        go_wp2
        go_round
        case rel => exact ⟨k + 1, _, by omega, by go_num, rfl, HN⟩
        case measure => simp [RowKit.intOf]; omega
      · have e : k = s.size := by omega
        have hxu : x = (u : Int) := by rw [HX.out, e, hend']
        have HXU : Hid (x = (u : Int)) := hxu
        clear hdig hstep' hle' hend' h0' HX hxu e
        go_wp2
        go_ret2
        exact ⟨ret_num HXU.out, rfl⟩
  · have h1' : decide ((1 : Int) < (s.size : Int)) = false := decide_eq_false (by omega)
    clear hhead
    go_enter Tryd.func7, Tryd.ntmps7
    go_wp2
    go_loop [4, 5] (fun v i => ∃ (k : Nat) (x : Int), k ≤ s.size ∧ i = .int .i64 k ∧ v = .int .u64 x ∧ Hid (x = (V k : Int))) (fun _ i => s.size - (RowKit.intOf i).toNat)
    case atStart => exact ⟨0, 0, Nat.zero_le _, rfl, rfl, by show (0 : Int) = (V 0 : Int); rw [h0']; rfl⟩
    case round =>
      obtain ⟨k, x, hk, rfl, rfl, HX⟩ := hrel
      by_cases hks : k < s.size
      · have hs1 := hstep' k hks
        have hs2 := hle' (k + 1)
        have hd := hdig k hks
        obtain ⟨c, hc⟩ : ∃ c : Int, c = (s[k].toNat : Int) := ⟨_, rfl⟩
        have hx0 : 0 ≤ x := by rw [HX.out]; omega
        have hd1 : 48 ≤ c := by omega
        have hd2 : c ≤ 57 := by omega
        have hx1 : x * 10 + (c - 48) ≤ 18446744073709551615 := by rw [HX.out, hc]; omega
        have HN : Hid (x * 10 + (c - 48) = (V (k + 1) : Int)) := by show _ = _; rw [HX.out, hc]; omega
        have hcc : (s[k].toNat : Int) = c := hc.symm
        clear hs1 hs2 hd hdig hstep' hle' hend' h0' hc HX
        go_wp2
        go_round
        case rel => exact ⟨k + 1, _, by omega, by go_num, rfl, HN⟩
        case measure => simp [RowKit.intOf]; omega
      · have e : k = s.size := by omega
        have hxu : x = (u : Int) := by rw [HX.out, e, hend']
        have HXU : Hid (x = (u : Int)) := hxu
        clear hdig hstep' hle' hend' h0' HX hxu e
        go_wp2
        go_ret2
        exact ⟨ret_num HXU.out, rfl⟩

end Go.Proofs.Qxb6613472aDoor.Walk
