/-
  'Rows.FnSkipValueStepsOverAnArrayOfStringsSaid' proved: the law's ways joined; the row's frame is the template's.
-/
import Derived.Test.Qxb6605428aLawB
import Derived.ProofKit
import Derived.OpenShut
import Derived.ShutString
import Derived.ChangeOld
import Derived.Below
import Derived.SliceStrings
namespace Go.Proofs.Qxb6605428a.fnSkipValueStepsOverAnArrayOfStrings
open Go.ChangeShapes Go.WideShapes Go.ChangeAt Go.RowKit
open Go.ChangeMaps (open_string shut_string)
set_option linter.unusedVariables false

theorem own : ownKnob Try.prog.godebug = none := by kernel_rfl
theorem laidOut : laidOutB Try.prog = true := by kernel_rfl

set_option maxRecDepth 100000 in
theorem walk_long (a0 a2 : ByteArray) (ao : Option Addr) (n cap : Nat) (w : World) (hc : Calls Try.prog 15 #[.string a0, .slice ao n cap, .string a2] w fun e w' => e = .returned (.bool false) ∧ w' = w) :
    Calls Try.prog 6 #[.string a0, .slice ao n cap, .string a2] w fun e w' => e = .returned (.bool true) ∧ Below w.heap.size w w' := by
  have H : Hid (Calls Try.prog 15 #[.string a0, .slice ao n cap, .string a2] w fun e w' => e = .returned (.bool false) ∧ w' = w) := hc
  clear hc
  go_enter Try.func6, Try.ntmps6
  go_wp2_with (go_at_call 15; refine H.out.mono ?_; rintro e w' ⟨rfl, rfl⟩)
  go_ret
  exact ⟨rfl, Below.refl _ _⟩

set_option maxRecDepth 100000 in
theorem walk_mid (a0 a2 : ByteArray) (ao : Option Addr) (n cap : Nat) (w : World) (hc : Calls Try.prog 15 #[.string a0, .slice ao n cap, .string a2] w fun e w' => e = .returned (.bool true) ∧ w' = w)
    (w0 : a0.size ≤ maxLen) (w2 : a2.size ≤ maxLen) (hm : n ≤ maxLen) (h1 : ¬ (a0.size ≤ 262144 ∧ a2.size ≤ 262144 ∧ n ≤ 16384)) :
    Calls Try.prog 6 #[.string a0, .slice ao n cap, .string a2] w fun e w' => e = .returned (.bool true) ∧ Below w.heap.size w w' := by
  have H : Hid (Calls Try.prog 15 #[.string a0, .slice ao n cap, .string a2] w fun e w' => e = .returned (.bool true) ∧ w' = w) := hc
  clear hc
  unfold maxLen at w0 w2 hm
  by_cases c0 : a0.size ≤ 262144
  · by_cases c2 : a2.size ≤ 262144
    · have cn : ¬ n ≤ 16384 := fun c => h1 ⟨c0, c2, c⟩
      clear h1
      go_enter Try.func6, Try.ntmps6
      go_wp2_with (go_at_call 15; refine H.out.mono ?_; rintro e w' ⟨rfl, rfl⟩)
      go_ret
      exact ⟨rfl, Below.refl _ _⟩
    · clear h1
      go_enter Try.func6, Try.ntmps6
      go_wp2_with (go_at_call 15; refine H.out.mono ?_; rintro e w' ⟨rfl, rfl⟩)
      go_ret
      exact ⟨rfl, Below.refl _ _⟩
  · clear h1
    go_enter Try.func6, Try.ntmps6
    go_wp2_with (go_at_call 15; refine H.out.mono ?_; rintro e w' ⟨rfl, rfl⟩)
    go_ret
    exact ⟨rfl, Below.refl _ _⟩

/-- What the walk is told of a slice of strings that came in. -/
def IsStrs (w : World) (a : Option Addr) (len cap : Nat) (ss : List ByteArray) : Prop :=
  (a = none ∧ len = 0 ∧ cap = 0) ∨
  ∃ x, a = some x ∧ len ≤ maxLen ∧ ss.length = len ∧ (∀ j, j < len → w.cell? (x.add j) = some (.string (ss.getD j ByteArray.empty))) ∧ ∀ j, (ss.getD j ByteArray.empty).size ≤ maxLen

/-- The whole walk. -/
theorem walk (a0 a2 : ByteArray) (ao : Option Addr) (n cap : Nat) (ss : List ByteArray) (w : World) (w0 : a0.size ≤ maxLen) (w2 : a2.size ≤ maxLen) (hs : IsStrs w ao n cap ss) :
    Calls Try.prog 6 #[.string a0, .slice ao n cap, .string a2] w fun e w' => e = .returned (.bool true) ∧ Below w.heap.size w w' := by
  rcases hs with ⟨rfl, rfl, rfl⟩ | ⟨ad, rfl, hm, hl, hc, hz⟩
  · by_cases hall : a0.size + a2.size ≤ 1048576
    · by_cases h1 : a0.size ≤ 262144 ∧ a2.size ≤ 262144 ∧ 0 ≤ 16384
      · exact walk_nil a0 a2 w w0 w2 hall h1.1 h1.2.1
      · exact walk_mid a0 a2 none 0 0 w (bytes15_nil a0 a2 w w0 w2 true (by show true = _; simp [hall])) w0 w2 (by simp [maxLen]) h1
    · exact walk_long a0 a2 none 0 0 w (bytes15_nil a0 a2 w w0 w2 false (by show false = _; simp [hall]))
  · by_cases hall : a0.size + n + sumz ss + a2.size ≤ 1048576
    · by_cases h1 : a0.size ≤ 262144 ∧ a2.size ≤ 262144 ∧ n ≤ 16384
      · refine walk_main a0 a2 ad n cap ss hl w w0 w2 hm hc hz (fun hn => ?_) hall h1.1 h1.2.1 h1.2.2
        have := World.block_lt_of_cell? w _ (hc 0 (by omega))
        rw [add_block] at this
        exact this
      · exact walk_mid a0 a2 (some ad) n cap w (bytes15_some a0 a2 ad n cap ss hl w w0 w2 hm hc hz true (by show true = _; simp [hall])) w0 w2 hm h1
    · exact walk_long a0 a2 (some ad) n cap w (bytes15_some a0 a2 ad n cap ss hl w w0 w2 hm hc hz false (by show false = _; simp [hall]))

set_option maxRecDepth 100000 in
theorem lifted (os : Os) (started : os.Started) (H : Type) (enc : TypeId × Value → H) :
    ReturnsInHanded {} Try.checked os 6 .any (Rows.fnSkipValueStepsOverAnArrayOfStringsSpec.pre6 enc Try.prog Try.f6 Rows.fnSkipValueStepsOverAnArrayOfStringsRow.domain false) (Rows.fnSkipValueStepsOverAnArrayOfStringsSpec.post enc Try.prog Try.f6 false true false false) := by
  refine returnsInHanded_of_change (C := Try.checked) own started (by kernel_rfl) Try.func6
    (ChangeSpec.witness6 (enc := enc) (C := Try.checked) false ⟨#[], #[.string ByteArray.empty, .slice none 0 0, .string ByteArray.empty], []⟩ 8 (by kernel_rfl) (by kernel_rfl) (by kernel_rfl) (by kernel_rfl)) ?_
  intro W base args ds gs before hval0 hW hcnd _
  have hval : ∀ (j : Nat) t v, Try.f6.params[j]? = some t → args[j]? = some v → Value.okWide Try.prog W .any base t v := hval0
  have hW' := hW
  obtain ⟨p, q, hA0, hV, rfl, hfz, hnd⟩ := hW
  have hA : DataW.TrodAll enc Try.prog W 0 (fun _ => true) true Try.f6.params.toList args.toList ds p := hA0
  rw [Try.params6] at hA hval
  obtain ⟨v0, vs0, d0, ds0, p0, q0, hargs, rfl, rfl, h0, r0⟩ := trodAll_cons hA
  obtain ⟨v1, vs1, d1, ds1, p1, q1, rfl, rfl, rfl, h1, r1⟩ := trodAll_cons r0
  obtain ⟨v2, vs2, d2, ds2, p2, q2, rfl, rfl, rfl, h2, r2⟩ := trodAll_cons r1
  obtain ⟨rfl, rfl, rfl⟩ := trodAll_nil r2
  obtain rfl : args = #[v0, v1, v2] := by cases args; simp_all
  obtain ⟨rfl, rfl⟩ := trodVars_none hV
  obtain ⟨a0, rfl, rfl, rfl, w0⟩ := open_string Try.underlying9 (hval 0 9 v0 rfl rfl) h0
  obtain ⟨a2, rfl, rfl, rfl, w2⟩ := open_string Try.underlying9 (hval 2 9 v2 rfl rfl) h2
  obtain ⟨a1, len1, cap1, rfl⟩ := okWide_slice Try.underlying27 (hval 1 27 v1 rfl rfl)
  have k1 := h1
  have lt1 : ∀ x ∈ p1, x.block < W.heap.size := by obtain ⟨m, hm⟩ := k1; exact DataW.trod_lt m _ _ _ hm
  obtain ⟨z1, w1⟩ : ∃ ss, IsStrs W a1 len1 cap1 ss := by
    obtain ⟨fuel, hf⟩ := h1
    rcases open_strings Try.underlying27 Try.underlying9 (by kernel_rfl) hf with ⟨hcs, _⟩ | ⟨x, l, c, ss, hcs, _, hl, hm, hz, _, hcell, hwz⟩
    · simp [Value.cells] at hcs
      obtain ⟨rfl, rfl, rfl⟩ := hcs
      exact ⟨[], .inl ⟨rfl, rfl, rfl⟩⟩
    · simp [Value.cells] at hcs
      obtain ⟨rfl, rfl, rfl⟩ := hcs
      have hz' : ss.length = cap1 := by simpa using hz
      have hg : ∀ j, j < len1 → (ss.take len1).getD j ByteArray.empty = ss.getD j ByteArray.empty := fun j hj => by
        simp [List.getD_eq_getElem?_getD, hj]
      refine ⟨ss.take len1, .inr ⟨_, rfl, by omega, by simp; omega, fun j hj => ?_, fun j => ?_⟩⟩
      · rw [hg j hj]; exact hcell j (by omega)
      · by_cases hj : j < (ss.take len1).length
        · rw [List.getD_eq_getElem?_getD, List.getElem?_eq_getElem hj]
          exact hwz _ (List.mem_of_mem_take (List.getElem_mem hj))
        · rw [List.getD_eq_getElem?_getD, List.getElem?_eq_none (by omega)]
          simp [maxLen]
  clear hA0 hval0
  refine (walk a0 a2 a1 len1 cap1 z1 W w0 w2 w1).mono fun e W' ⟨he, bel⟩ => ?_
  subst he
  exact ⟨_, rfl, _, _, _, [], _, [], hW', trodAll_mk1 (shut_bool Try.underlying4 _), (trodAll_cons_mk (shut_string Try.underlying9 w0) (trodAll_cons_mk (Below.trod laidOut (by kernel_rfl) (of_decide_eq_true (by kernel_rfl)) k1 bel lt1) (trodAll_cons_mk (shut_string Try.underlying9 w2) trodAll_mk0))), rfl, bel.frame _, fun h => by cases h⟩

theorem over : Rows.fnSkipValueStepsOverAnArrayOfStringsRow.holds Try.pinned (OpenSpec.ofChange Rows.fnSkipValueStepsOverAnArrayOfStringsSpec) :=
  OpenClaim.holds_of_wide 6 Try.f6 rfl rfl rfl rfl rfl rfl rfl ⟨rfl, rfl, rfl, rfl, rfl⟩ rfl rfl rfl rfl rfl (by kernel_rfl) Try.func6 (by kernel_rfl)
    (of_decide_eq_true (by kernel_rfl)) (by unfold Func.isWrapper; first | (rw [if_pos (by decide +kernel)]; kernel_rfl) | (rw [if_neg (by decide +kernel)]; exact ⟨rfl, rfl⟩))
    (fun os started H enc _ => lifted os started H enc)

/-- The statement. -/
theorem proved : Rows.FnSkipValueStepsOverAnArrayOfStringsSaid :=
  over
end Go.Proofs.Qxb6605428a.fnSkipValueStepsOverAnArrayOfStrings
