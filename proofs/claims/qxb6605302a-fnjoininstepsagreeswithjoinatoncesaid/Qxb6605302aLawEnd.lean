/-
  'Rows.FnJoinInStepsAgreesWithJoinAtOnceSaid' proved: the law's ways joined; the row's frame is the template's.
-/
import Derived.Test.Qxb6605302aLaw
import Derived.ProofKit
import Derived.OpenShut
import Derived.ShutString
import Derived.ChangeOld
import Derived.Below
import Derived.SliceStrings
namespace Go.Proofs.Qxb6605302a.fnJoinInStepsAgreesWithJoinAtOnce
open Go.ChangeShapes Go.WideShapes Go.ChangeAt Go.RowKit
open Go.ChangeMaps (open_string shut_string)
set_option linter.unusedVariables false

theorem own : ownKnob Try.prog.godebug = none := by kernel_rfl
theorem laidOut : laidOutB Try.prog = true := by kernel_rfl

set_option maxRecDepth 100000 in
theorem walk_long (a0 : ByteArray) (po qo : Option Addr) (np nq cp cq : Nat) (w : World) (hc : Calls Try.prog 11 #[.string a0, .slice po np cp, .slice qo nq cq] w fun e w' => e = .returned (.bool false) ∧ w' = w) :
    Calls Try.prog 5 #[.string a0, .slice po np cp, .slice qo nq cq] w fun e w' => e = .returned (.bool true) ∧ Below w.heap.size w w' := by
  have H : Hid (Calls Try.prog 11 #[.string a0, .slice po np cp, .slice qo nq cq] w fun e w' => e = .returned (.bool false) ∧ w' = w) := hc
  clear hc
  go_enter Try.func5, Try.ntmps5
  go_wp2_with (go_at_call 11; refine H.out.mono ?_; rintro e w' ⟨rfl, rfl⟩)
  go_ret
  exact ⟨rfl, Below.refl _ _⟩

set_option maxRecDepth 100000 in
theorem walk_mid (a0 : ByteArray) (po qo : Option Addr) (np nq cp cq : Nat) (w : World) (hc : Calls Try.prog 11 #[.string a0, .slice po np cp, .slice qo nq cq] w fun e w' => e = .returned (.bool true) ∧ w' = w)
    (h0 : a0.size ≤ 1048576) (hmp : np ≤ 1048576) (hmq : nq ≤ 1048576) (h1 : ¬ (np ≤ 65536 ∧ nq ≤ 65536 ∧ a0.size + 16 * (np + nq) ≤ 1048576)) :
    Calls Try.prog 5 #[.string a0, .slice po np cp, .slice qo nq cq] w fun e w' => e = .returned (.bool true) ∧ Below w.heap.size w w' := by
  have H : Hid (Calls Try.prog 11 #[.string a0, .slice po np cp, .slice qo nq cq] w fun e w' => e = .returned (.bool true) ∧ w' = w) := hc
  clear hc
  by_cases c1 : np ≤ 65536
  · by_cases c2 : nq ≤ 65536
    · have c3 : (1048576 : Int) < (a0.size : Int) + 16 * ((np : Int) + (nq : Int)) := by
        apply Classical.byContradiction
        intro h
        exact h1 ⟨c1, c2, by omega⟩
      clear h1
      go_enter Try.func5, Try.ntmps5
      go_wp2_with (go_at_call 11; refine H.out.mono ?_; rintro e w' ⟨rfl, rfl⟩)
      go_ret
      exact ⟨rfl, Below.refl _ _⟩
    · clear h1
      go_enter Try.func5, Try.ntmps5
      go_wp2_with (go_at_call 11; refine H.out.mono ?_; rintro e w' ⟨rfl, rfl⟩)
      go_ret
      exact ⟨rfl, Below.refl _ _⟩
  · clear h1
    go_enter Try.func5, Try.ntmps5
    go_wp2_with (go_at_call 11; refine H.out.mono ?_; rintro e w' ⟨rfl, rfl⟩)
    go_ret
    exact ⟨rfl, Below.refl _ _⟩

/-- The whole walk. -/
theorem walk (a0 : ByteArray) (po qo : Option Addr) (np nq cp cq : Nat) (pd qd : Addr) (ps qs : List ByteArray) (w : World) (w0 : a0.size ≤ maxLen) (hP : SlOk w po np cp pd ps) (hQ : SlOk w qo nq cq qd qs) :
    Calls Try.prog 5 #[.string a0, .slice po np cp, .slice qo nq cq] w fun e w' => e = .returned (.bool true) ∧ Below w.heap.size w w' := by
  by_cases hall : a0.size + np + sumz ps + nq + sumz qs ≤ 1048576
  · by_cases h1 : np ≤ 65536 ∧ nq ≤ 65536 ∧ a0.size + 16 * (np + nq) ≤ 1048576
    · exact walk_main a0 po qo np nq cp cq pd qd ps qs w w0 hP hQ hall h1.1 h1.2.1 h1.2.2
    · exact walk_mid a0 po qo np nq cp cq w (bytes11 a0 po qo np nq cp cq pd qd ps qs w w0 hP hQ true (by show true = _; simp [hall])) (by omega) (by omega) (by omega) h1
  · exact walk_long a0 po qo np nq cp cq w (bytes11 a0 po qo np nq cp cq pd qd ps qs w w0 hP hQ false (by show false = _; simp [hall]))

/-- From the reading of a slice of strings to what the walk is told. -/
theorem slOk_of {H : Type} {enc : TypeId × Value → H} {W : World} {fuel : Nat} {a1 : Option Addr} {len1 cap1 : Nat} {x : DataW H × List MemPlace} (hf : DataW.trod enc Try.prog W 0 (fun _ => true) true fuel 28 (Value.cells (.slice a1 len1 cap1)).toList = some x) :
    ∃ ad ss, SlOk W a1 len1 cap1 ad ss := by
  rcases open_strings Try.underlying28 Try.underlying9 (by kernel_rfl) hf with ⟨hcs, _⟩ | ⟨x, l, c, ss, hcs, _, hl, hm, hz, _, hcell, hwz⟩
  · simp [Value.cells] at hcs
    obtain ⟨rfl, rfl, rfl⟩ := hcs
    exact ⟨⟨0, 0, none⟩, [], rfl, by simp [maxLen], fun j hj => by omega, fun j => by simp [maxLen], fun k hk => by omega, fun h => absurd rfl h⟩
  · simp [Value.cells] at hcs
    obtain ⟨rfl, rfl, rfl⟩ := hcs
    have hz' : ss.length = cap1 := by simpa using hz
    have hg : ∀ j, j < len1 → (ss.take len1).getD j ByteArray.empty = ss.getD j ByteArray.empty := fun j hj => by
      simp [List.getD_eq_getElem?_getD, hj]
    refine ⟨x, ss.take len1, by simp; omega, by omega, fun j hj => ?_, fun j => ?_, fun k hk wx => ix_some x len1 cap1 k hk wx, fun _ => rfl⟩
    · rw [hg j hj]; exact hcell j (by omega)
    · by_cases hj : j < (ss.take len1).length
      · rw [List.getD_eq_getElem?_getD, List.getElem?_eq_getElem hj]
        exact hwz _ (List.mem_of_mem_take (List.getElem_mem hj))
      · rw [List.getD_eq_getElem?_getD, List.getElem?_eq_none (by omega)]
        simp [maxLen]

set_option maxRecDepth 100000 in
theorem lifted (os : Os) (started : os.Started) (H : Type) (enc : TypeId × Value → H) :
    ReturnsInHanded {} Try.checked os 5 .any (Rows.fnJoinInStepsAgreesWithJoinAtOnceSpec.pre6 enc Try.prog Try.f5 Rows.fnJoinInStepsAgreesWithJoinAtOnceRow.domain false) (Rows.fnJoinInStepsAgreesWithJoinAtOnceSpec.post enc Try.prog Try.f5 false true false false) := by
  refine returnsInHanded_of_change (C := Try.checked) own started (by kernel_rfl) Try.func5
    (ChangeSpec.witness6 (enc := enc) (C := Try.checked) false ⟨#[], #[.string ByteArray.empty, .slice none 0 0, .slice none 0 0], []⟩ 8 (by kernel_rfl) (by kernel_rfl) (by kernel_rfl) (by kernel_rfl)) ?_
  intro W base args ds gs before hval0 hW hcnd _
  have hval : ∀ (j : Nat) t v, Try.f5.params[j]? = some t → args[j]? = some v → Value.okWide Try.prog W .any base t v := hval0
  have hW' := hW
  obtain ⟨p, q, hA0, hV, rfl, hfz, hnd⟩ := hW
  have hA : DataW.TrodAll enc Try.prog W 0 (fun _ => true) true Try.f5.params.toList args.toList ds p := hA0
  rw [Try.params5] at hA hval
  obtain ⟨v0, vs0, d0, ds0, p0, q0, hargs, rfl, rfl, h0, r0⟩ := trodAll_cons hA
  obtain ⟨v1, vs1, d1, ds1, p1, q1, rfl, rfl, rfl, h1, r1⟩ := trodAll_cons r0
  obtain ⟨v2, vs2, d2, ds2, p2, q2, rfl, rfl, rfl, h2, r2⟩ := trodAll_cons r1
  obtain ⟨rfl, rfl, rfl⟩ := trodAll_nil r2
  obtain rfl : args = #[v0, v1, v2] := by cases args; simp_all
  obtain ⟨rfl, rfl⟩ := trodVars_none hV
  obtain ⟨a0, rfl, rfl, rfl, w0⟩ := open_string Try.underlying9 (hval 0 9 v0 rfl rfl) h0
  obtain ⟨a1, len1, cap1, rfl⟩ := okWide_slice Try.underlying28 (hval 1 28 v1 rfl rfl)
  obtain ⟨a2, len2, cap2, rfl⟩ := okWide_slice Try.underlying28 (hval 2 28 v2 rfl rfl)
  have k1 := h1
  have k2 := h2
  have lt1 : ∀ x ∈ p1, x.block < W.heap.size := by obtain ⟨m, hm⟩ := k1; exact DataW.trod_lt m _ _ _ hm
  have lt2 : ∀ x ∈ p2, x.block < W.heap.size := by obtain ⟨m, hm⟩ := k2; exact DataW.trod_lt m _ _ _ hm
  obtain ⟨pd, ps, hP⟩ : ∃ ad ss, SlOk W a1 len1 cap1 ad ss := by
    obtain ⟨fuel, hf⟩ := h1
    exact slOk_of hf
  obtain ⟨qd, qs, hQ⟩ : ∃ ad ss, SlOk W a2 len2 cap2 ad ss := by
    obtain ⟨fuel, hf⟩ := h2
    exact slOk_of hf
  clear hA0 hval0
  refine (walk a0 a1 a2 len1 len2 cap1 cap2 pd qd ps qs W w0 hP hQ).mono fun e W' ⟨he, bel⟩ => ?_
  subst he
  exact ⟨_, rfl, _, _, _, [], _, [], hW', trodAll_mk1 (shut_bool Try.underlying4 _), (trodAll_cons_mk (shut_string Try.underlying9 w0) (trodAll_cons_mk (Below.trod laidOut (by kernel_rfl) (of_decide_eq_true (by kernel_rfl)) k1 bel lt1) (trodAll_cons_mk (Below.trod laidOut (by kernel_rfl) (of_decide_eq_true (by kernel_rfl)) k2 bel lt2) trodAll_mk0))), rfl, bel.frame _, fun h => by cases h⟩

theorem over : Rows.fnJoinInStepsAgreesWithJoinAtOnceRow.holds Try.pinned (OpenSpec.ofChange Rows.fnJoinInStepsAgreesWithJoinAtOnceSpec) :=
  OpenClaim.holds_of_wide 5 Try.f5 rfl rfl rfl rfl rfl rfl rfl ⟨rfl, rfl, rfl, rfl, rfl⟩ rfl rfl rfl rfl rfl (by kernel_rfl) Try.func5 (by kernel_rfl)
    (of_decide_eq_true (by kernel_rfl)) (by unfold Func.isWrapper; first | (rw [if_pos (by decide +kernel)]; kernel_rfl) | (rw [if_neg (by decide +kernel)]; exact ⟨rfl, rfl⟩))
    (fun os started H enc _ => lifted os started H enc)

/-- The statement. -/
theorem proved : Rows.FnJoinInStepsAgreesWithJoinAtOnceSaid :=
  over
end Go.Proofs.Qxb6605302a.fnJoinInStepsAgreesWithJoinAtOnce
