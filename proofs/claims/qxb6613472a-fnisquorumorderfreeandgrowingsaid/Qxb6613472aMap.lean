/- The map of members found, and the bits of members found. -/
import Derived.Test.Qxb6613472aSeq
import Derived.MapKept
import Derived.Carry
namespace Go.Proofs.Qxb6613472a.Quorum
open Go Go.RowKit Go.Proofs.Qxb6613472a.Base Go.Proofs.Qxb6613472a.Plain
set_option linter.unusedVariables false

/-- The map holds `true` at just the places of the members found so far. -/
structure MapIs (n : Nat) (f : Nat → Int) (pre : List Int) (es : Array MapEntry) : Prop where
  keys : ∀ x ∈ es.toList, MapKept.IsKey (.int .i64) x.key
  vals : ∀ x ∈ es.toList, x.val = .bool true
  just : ∀ k : Nat, k < n → ((∃ x ∈ es.toList, x.key = .int .i64 k) ↔ f k ∈ pre)

theorem isKey_int (k : Int) : MapKept.IsKey (.int .i64) (.int .i64 k) := by simp [MapKept.IsKey]
theorem u3 : Try.prog.underlying 3 = some (.int .i64) := by kernel_rfl
theorem u4 : Try.prog.underlying 4 = some .bool := by kernel_rfl
theorem u56 : Try.prog.underlying 56 = some (.map 3 4) := by kernel_rfl

theorem look_yes {w : World} {r c n k : Nat} {f : Nat → Int} {pre : List Int} {es : Array MapEntry} (hb : w.heap[r]? = some (.map es c)) (hm : MapIs n f pre es) (hk : k < n) (h : f k ∈ pre) :
    (Instr.lookup 56 (.map (some r)) (.int .i64 k) false).run Try.prog w = .ok (.bool true) w := by
  have hc : (Instr.checkKey es.isEmpty 10000 3 (.int .i64 k)).run Try.prog w = .ok () w := MapKept.run_checkKey u3 (isKey_int _) _ 9999
  rcases MapKept.findNow_spec (isKey_int k) es.toList 0 hm.keys with ⟨_, h2⟩ | ⟨j, e, h1, h2, _⟩
  · obtain ⟨x, hx, e⟩ := (hm.just k hk).2 h
    exact absurd e (h2 x hx)
  · rw [hm.vals e (List.mem_of_getElem? h2)] at h1
    simp [Instr.lookup, run_underlying u56, MapKept.run_getObj_map hb, hc, MapKept.run_findKey u3 h1, Result.andThen]

theorem find_no {n k : Nat} {f : Nat → Int} {pre : List Int} {es : Array MapEntry} (hm : MapIs n f pre es) (hk : k < n) (h : ¬ f k ∈ pre) :
    Instr.findNow (.int .i64) (.int .i64 k) es.toList 0 = some none := by
  rcases MapKept.findNow_spec (isKey_int k) es.toList 0 hm.keys with ⟨h1, _⟩ | ⟨j, e, h1, h2, h3⟩
  · exact h1
  · exact absurd ((hm.just k hk).1 ⟨e, List.mem_of_getElem? h2, h3⟩) h

theorem look_no {w : World} {r c n k : Nat} {f : Nat → Int} {pre : List Int} {es : Array MapEntry} (hb : w.heap[r]? = some (.map es c)) (hm : MapIs n f pre es) (hk : k < n) (h : ¬ f k ∈ pre) :
    (Instr.lookup 56 (.map (some r)) (.int .i64 k) false).run Try.prog w = .ok (.bool false) w := by
  have hc : (Instr.checkKey es.isEmpty 10000 3 (.int .i64 k)).run Try.prog w = .ok () w := MapKept.run_checkKey u3 (isKey_int _) _ 9999
  simp [Instr.lookup, run_underlying u56, MapKept.run_getObj_map hb, hc, MapKept.run_findKey u3 (find_no hm hk h), Result.andThen]

theorem ins_no {w : World} {r c n k : Nat} {f : Nat → Int} {pre : List Int} {es : Array MapEntry} (hb : w.heap[r]? = some (.map es c)) (hm : MapIs n f pre es) (hk : k < n) (h : ¬ f k ∈ pre) :
    (Instr.mapUpdate 56 (.map (some r)) (.int .i64 k) (.bool true)).run Try.prog w = .ok () (w.putObj r (.map (es.push { key := .int .i64 k, val := .bool true, born := c }) (c + 1))) := by
  have hc : (Instr.checkKey false 10000 3 (.int .i64 k)).run Try.prog w = .ok () w := MapKept.run_checkKey u3 (isKey_int _) false 9999
  simp [Instr.mapUpdate, run_underlying u56, MapKept.run_getObj_map hb, hc, MapKept.run_findKey u3 (find_no hm hk h), MapKept.run_setObj_map _ hb, Result.andThen]
  rfl

theorem MapIs.put {n k c : Nat} {f : Nat → Int} {pre : List Int} {es : Array MapEntry} (hm : MapIs n f pre es) (hk : k < n) (hinc : Incr n f) :
    MapIs n f (pre ++ [f k]) (es.push { key := .int .i64 k, val := .bool true, born := c }) := by
  refine ⟨fun x hx => ?_, fun x hx => ?_, fun i hi => ?_⟩
  · simp only [Array.toList_push, List.mem_append, List.mem_singleton] at hx
    rcases hx with hx | rfl
    · exact hm.keys x hx
    · exact isKey_int _
  · simp only [Array.toList_push, List.mem_append, List.mem_singleton] at hx
    rcases hx with hx | rfl
    · exact hm.vals x hx
    · rfl
  · simp only [Array.toList_push, List.mem_append, List.mem_singleton]
    constructor
    · rintro ⟨x, hx | rfl, e⟩
      · exact .inl ((hm.just i hi).1 ⟨x, hx, e⟩)
      · simp at e
        exact .inr (by rw [show i = k by omega])
    · rintro (h | h)
      · obtain ⟨x, hx, e⟩ := (hm.just i hi).2 h
        exact ⟨x, .inl hx, e⟩
      · exact ⟨_, .inr rfl, by rw [incr_inj hinc hi hk h]⟩

theorem MapIs.same {n : Nat} {f : Nat → Int} {pre pre' : List Int} {es : Array MapEntry} (hm : MapIs n f pre es) (h : ∀ k, k < n → (f k ∈ pre ↔ f k ∈ pre')) : MapIs n f pre' es :=
  ⟨hm.keys, hm.vals, fun k hk => (hm.just k hk).trans (h k hk)⟩

theorem MapIs.none {n : Nat} {f : Nat → Int} {pre : List Int} (h : ∀ k, k < n → ¬ f k ∈ pre) : MapIs n f pre #[] :=
  ⟨fun x hx => absurd hx (by simp), fun x hx => absurd hx (by simp), fun k hk => ⟨fun ⟨x, hx, _⟩ => absurd hx (by simp), fun h' => absurd h' (h k hk)⟩⟩

end Go.Proofs.Qxb6613472a.Quorum
