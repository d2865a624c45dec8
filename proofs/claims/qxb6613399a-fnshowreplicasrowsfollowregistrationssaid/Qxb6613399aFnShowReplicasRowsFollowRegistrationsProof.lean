/- THE PROOF OF FnShowReplicasRowsFollowRegistrationsSaid: the walk lies in texts of its own. -/
import Derived.Test.Qxb6613399aRows
import Derived.WalkKit
import Derived.ProofKit
import Derived.OpenShut
import Derived.ShutString
import Derived.ChangeOld
import Derived.Below
import Derived.Deep.Slices
import Derived.Test.Qxb6613399aLawWalk
namespace Go.Proofs.Qxb6613399a.fnShowReplicasRowsFollowRegistrations
open Go.ChangeShapes Go.WideShapes Go.ChangeAt Go.RowKit
open Go.ChangeMaps (open_string shut_string)
open Go.Deep Go.Proofs.Qxb6613399a.Show
set_option linter.unusedVariables false

theorem own : ownKnob Try.prog.godebug = none := by kernel_rfl
theorem laidOut : laidOutB Try.prog = true := by kernel_rfl
theorem cells31 : Try.prog.cellsOf 31 = 5 := by kernel_rfl
theorem cells9 : Try.prog.cellsOf 9 = 1 := by kernel_rfl
theorem cells3 : Try.prog.cellsOf 3 = 1 := by kernel_rfl

set_option maxRecDepth 100000 in
theorem open31 {H : Type} {enc : TypeId × Value → H} {w : World} {base : Nat} {spare : Nat → Bool} {held : Bool} {fuel : Nat} {cs : List Value} {x : DataW H × List MemPlace} (h : DataW.trod enc Try.prog w base spare held fuel 31 cs = some x) :
    ∃ r : Rep, cs = [.string r.name, .string r.address, .string r.mode, .string r.status, .int .i64 r.ts] := by
  obtain ⟨xs, n, _, rfl, hl, hlen, hf⟩ := DataW.trod_struct Try.underlying31 h
  rw [cells31] at hl
  match cs, hl with
  | [c0, c1, c2, c3, c4], _ =>
    match xs, hlen with
    | [y0, y1, y2, y3, y4], _ =>
      have h0 : DataW.trod enc Try.prog w base spare held n 9 (([c0, c1, c2, c3, c4].drop 0).take (Try.prog.cellsOf 9)) = some y0 := hf 0 _ rfl
      have h1 : DataW.trod enc Try.prog w base spare held n 9 (([c0, c1, c2, c3, c4].drop 1).take (Try.prog.cellsOf 9)) = some y1 := hf 1 _ rfl
      have h2 : DataW.trod enc Try.prog w base spare held n 9 (([c0, c1, c2, c3, c4].drop 2).take (Try.prog.cellsOf 9)) = some y2 := hf 2 _ rfl
      have h3 : DataW.trod enc Try.prog w base spare held n 9 (([c0, c1, c2, c3, c4].drop 3).take (Try.prog.cellsOf 9)) = some y3 := hf 3 _ rfl
      have h4 : DataW.trod enc Try.prog w base spare held n 3 (([c0, c1, c2, c3, c4].drop 4).take (Try.prog.cellsOf 3)) = some y4 := hf 4 _ rfl
      rw [cells9] at h0 h1 h2 h3
      rw [cells3] at h4
      obtain ⟨s0, e0, _⟩ := DataW.trod_string Try.underlying9 h0
      obtain ⟨s1, e1, _⟩ := DataW.trod_string Try.underlying9 h1
      obtain ⟨s2, e2, _⟩ := DataW.trod_string Try.underlying9 h2
      obtain ⟨s3, e3, _⟩ := DataW.trod_string Try.underlying9 h3
      obtain ⟨n4, e4, _⟩ := DataW.trod_int Try.underlying3 h4
      simp at e0 e1 e2 e3 e4
      exact ⟨⟨s0, s1, s2, s3, n4⟩, by simp [e0, e1, e2, e3, e4]⟩

theorem reps_of {H : Type} {enc : TypeId × Value → H} {W : World} {base : Nat} {spare : Nat → Bool} {held : Bool} {a : Option Addr} {len cap : Nat} {d : DataW H} {p : List MemPlace} (x : Rep)
    (h : DataW.Trod enc Try.prog W base spare held 29 (.slice a len cap) d p) : ∃ (b off : Nat) (R : Nat → Rep), Reps W a len b off R ∧ R len = x := by
  obtain ⟨fuel, hf⟩ := h
  rcases open_slice Try.underlying29 hf with ⟨hcs, _⟩ | ⟨ad, l, c, m, n, D, Pl, hcs, hb, hl, hm, hmm, hx, hcell⟩
  · simp [Value.cells] at hcs
    obtain ⟨rfl, rfl, rfl⟩ := hcs
    exact ⟨0, 0, fun _ => x, ⟨fun h => absurd h (by omega), fun i hi => absurd hi (by omega), fun i hi => absurd hi (by omega), fun i hi => absurd hi (by omega), fun i hi => absurd hi (by omega), fun i hi => absurd hi (by omega)⟩, rfl⟩
  · simp [Value.cells] at hcs
    obtain ⟨rfl, rfl, rfl⟩ := hcs
    have hlm : len ≤ m := by rw [hmm]; split <;> omega
    obtain ⟨f, hfr⟩ := @choose_lt Rep ⟨x⟩ len (fun i r => W.cell? ((ad.add (i * 5)).add 0) = some (.string r.name) ∧ W.cell? ((ad.add (i * 5)).add 1) = some (.string r.address) ∧ W.cell? ((ad.add (i * 5)).add 2) = some (.string r.mode) ∧ W.cell? ((ad.add (i * 5)).add 3) = some (.string r.status) ∧ W.cell? ((ad.add (i * 5)).add 4) = some (.int .i64 r.ts)) (fun i hi => by
      obtain ⟨cs', h1, h2⟩ := hcell i (by omega)
      obtain ⟨r, rfl⟩ := open31 h2
      rw [cells31] at h1
      obtain ⟨_, _, hc⟩ := World.cells?_some h1
      refine ⟨r, ?_, ?_, ?_, ?_, ?_⟩
      · simpa using hc 0 (by omega)
      · simpa using hc 1 (by omega)
      · simpa using hc 2 (by omega)
      · simpa using hc 3 (by omega)
      · simpa using hc 4 (by omega))
    obtain ⟨b, off, spot⟩ := ad
    by_cases h0 : len = 0
    · subst h0
      exact ⟨0, 0, fun _ => x, ⟨fun h => absurd h (by omega), fun i hi => absurd hi (by omega), fun i hi => absurd hi (by omega), fun i hi => absurd hi (by omega), fun i hi => absurd hi (by omega), fun i hi => absurd hi (by omega)⟩, rfl⟩
    · have hspot : spot = none := by
        have hsp := World.cell?_spot (hfr 0 (by omega)).1
        simpa [Addr.add] using hsp
      subst hspot
      refine ⟨b, off, fun i => if i < len then f i else x, ⟨fun _ => rfl, ?_, ?_, ?_, ?_, ?_⟩, by simp⟩
      all_goals intro i hi
      all_goals simp only [if_pos hi]
      all_goals have hh := hfr i hi
      all_goals simp only [add_plain, Nat.add_zero] at hh
      · exact hh.1
      · exact hh.2.1
      · exact hh.2.2.1
      · exact hh.2.2.2.1
      · exact hh.2.2.2.2

set_option maxRecDepth 100000 in
theorem lifted (os : Os) (started : os.Started) (H : Type) (enc : TypeId × Value → H) :
    ReturnsInHanded {} Try.checked os 6 .any (Rows.fnShowReplicasRowsFollowRegistrationsSpec.pre6 enc Try.prog Try.f6 Rows.fnShowReplicasRowsFollowRegistrationsRow.domain false) (Rows.fnShowReplicasRowsFollowRegistrationsSpec.post enc Try.prog Try.f6 false true false false) := by
  refine returnsInHanded_of_change (C := Try.checked) own started (by kernel_rfl) Try.func6
    (ChangeSpec.witness6 (enc := enc) (C := Try.checked) false ⟨#[], #[.int .i64 0, .slice none 0 0, .agg #[.string ⟨#[]⟩, .string ⟨#[]⟩, .string ⟨#[]⟩, .string ⟨#[]⟩, .int .i64 0]], []⟩ 8 (by kernel_rfl) (by kernel_rfl) (by kernel_rfl) (by kernel_rfl)) ?_
  intro W base args ds gs before hval0 hW hcnd _
  have hval : ∀ (j : Nat) t v, Try.f6.params[j]? = some t → args[j]? = some v → Value.okWide Try.prog W .any base t v := hval0
  have hW' := hW
  obtain ⟨p, q, hA0, hV, rfl, hfz, hnd⟩ := hW
  have hA : DataW.TrodAll enc Try.prog W 0 (fun _ => true) true Try.f6.params.toList args.toList ds p := hA0
  rw [Try.params6] at hA hval
  obtain ⟨v0, vs0, d0, ds0, p0, q0, hargs, rfl, rfl, h0, r0⟩ := trodAll_cons hA
  obtain ⟨v1, vs1, d1, ds1, p1, q1, rfl, rfl, rfl, h1, r1⟩ := trodAll_cons r0
  obtain ⟨v2, vs2, d2, ds2, p2, q2, rfl, rfl, rfl, h2, r2⟩ := trodAll_cons r1
  obtain ⟨rfl, rfl, rfl⟩ := trodAll_nil r2
  obtain rfl : args = #[v0, v1, v2] := by cases args; simp_all
  obtain ⟨rfl, rfl⟩ := trodVars_none hV
  obtain ⟨a0, rfl, rfl, rfl, w0⟩ := open_int Try.underlying3 (hval 0 3 v0 rfl rfl) h0
  obtain ⟨a1, len1, cap1, rfl⟩ := okWide_slice Try.underlying29 (hval 1 29 v1 rfl rfl)
  have k1 := h1
  have lt1 : ∀ x ∈ p1, x.block < W.heap.size := by obtain ⟨m, hm⟩ := k1; exact DataW.trod_lt m _ _ _ hm
  have k2 := h2
  have lt2 : ∀ x ∈ p2, x.block < W.heap.size := by obtain ⟨m, hm⟩ := k2; exact DataW.trod_lt m _ _ _ hm
  obtain ⟨x, rfl⟩ : ∃ x : Rep, v2 = x.agg := by
    obtain ⟨cs, rfl, hsz⟩ := okWide_struct Try.underlying31 (hval 2 31 v2 rfl rfl)
    obtain ⟨fuel, hf⟩ := h2
    obtain ⟨r, hr⟩ := open31 hf
    refine ⟨r, ?_⟩
    obtain ⟨l⟩ := cs
    simp [Value.cells] at hr
    simp [Rep.agg, hr]
  obtain ⟨b, off, R, hR, rfl⟩ := reps_of x h1
  clear hA0 hval0
  refine (walk a0 a1 len1 cap1 b off R W hR).mono fun e W' ⟨he, bel⟩ => ?_
  subst he
  exact ⟨_, rfl, _, _, _, [], _, [], hW', trodAll_mk1 (shut_bool Try.underlying4 _), (trodAll_cons_mk (shut_int Try.underlying3 w0) (trodAll_cons_mk (Below.trod laidOut (by kernel_rfl) (of_decide_eq_true (by kernel_rfl)) k1 bel lt1) (trodAll_cons_mk (Below.trod laidOut (by kernel_rfl) (of_decide_eq_true (by kernel_rfl)) k2 bel lt2) trodAll_mk0))), rfl, bel.frame _, fun h => by cases h⟩

theorem over : Rows.fnShowReplicasRowsFollowRegistrationsRow.holds Try.pinned (OpenSpec.ofChange Rows.fnShowReplicasRowsFollowRegistrationsSpec) :=
  OpenClaim.holds_of_wide 6 Try.f6 rfl rfl rfl rfl rfl rfl rfl ⟨rfl, rfl, rfl, rfl, rfl⟩ rfl rfl rfl rfl rfl (by kernel_rfl) Try.func6 (by kernel_rfl)
    (of_decide_eq_true (by kernel_rfl)) (by unfold Func.isWrapper; first | (rw [if_pos (by decide +kernel)]; kernel_rfl) | (rw [if_neg (by decide +kernel)]; exact ⟨rfl, rfl⟩))
    (fun os started H enc _ => lifted os started H enc)

theorem proved : Rows.FnShowReplicasRowsFollowRegistrationsSaid := over
end Go.Proofs.Qxb6613399a.fnShowReplicasRowsFollowRegistrations
namespace Go.Proofs.Qxb6613399a
theorem fnShowReplicasRowsFollowRegistrations_proved : Rows.FnShowReplicasRowsFollowRegistrationsSaid := fnShowReplicasRowsFollowRegistrations.proved
end Go.Proofs.Qxb6613399a
