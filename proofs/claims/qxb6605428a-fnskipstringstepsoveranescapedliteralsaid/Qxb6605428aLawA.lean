/-
  'Rows.FnSkipStringStepsOverAnEscapedLiteralSaid' proved: the walk of the law out of the contracts; the row's frame is the template's.
-/
import Derived.Test.Qxb6605428aOwn
import Derived.ProofKit
import Derived.OpenShut
import Derived.ShutString
namespace Go.Proofs.Qxb6605428a.fnSkipStringStepsOverAnEscapedLiteral
open Go.ChangeShapes Go.WideShapes Go.ChangeAt Go.RowKit
open Go.ChangeMaps (open_string shut_string)
set_option linter.unusedVariables false

theorem own : ownKnob Try.prog.godebug = none := by kernel_rfl

/-- Too long: true at once. -/
theorem walk_long (a0 a1 a2 : ByteArray) (w0 : a0.size ≤ maxLen) (w1 : a1.size ≤ maxLen) (w2 : a2.size ≤ maxLen) (h : ¬ a0.size + a1.size + a2.size ≤ 1048576) (w : World) :
    Calls Try.prog 4 #[.string a0, .string a1, .string a2] w fun e w' => e = .returned (.bool true) ∧ Below w.heap.size w w' := by
  go_enter Try.func4, Try.ntmps4
  go_wp2_with (go_at_call 10; refine (bytes4_no _ _ _ w0 w1 w2 h _).mono ?_; rintro e w' ⟨rfl, rfl⟩)
  go_ret
  exact ⟨rfl, Below.refl _ _⟩

theorem walk_mid (a0 a1 a2 : ByteArray) (h : a0.size + a1.size + a2.size ≤ 1048576) (h1 : ¬ (a0.size ≤ 262144 ∧ a1.size ≤ 262144 ∧ a2.size ≤ 262144)) (w : World) :
    Calls Try.prog 4 #[.string a0, .string a1, .string a2] w fun e w' => e = .returned (.bool true) ∧ Below w.heap.size w w' := by
  by_cases c0 : a0.size ≤ 262144
  · by_cases c1 : a1.size ≤ 262144
    · have c2 : ¬ a2.size ≤ 262144 := fun c2 => h1 ⟨c0, c1, c2⟩
      clear h1
      go_enter Try.func4, Try.ntmps4
      go_wp2_with (go_at_call 10; refine (bytes4_yes _ _ _ h _).mono ?_; rintro e w' ⟨rfl, rfl⟩)
      go_ret
      exact ⟨rfl, Below.refl _ _⟩
    · clear h1
      go_enter Try.func4, Try.ntmps4
      go_wp2_with (go_at_call 10; refine (bytes4_yes _ _ _ h _).mono ?_; rintro e w' ⟨rfl, rfl⟩)
      go_ret
      exact ⟨rfl, Below.refl _ _⟩
  · clear h1
    go_enter Try.func4, Try.ntmps4
    go_wp2_with (go_at_call 10; refine (bytes4_yes _ _ _ h _).mono ?_; rintro e w' ⟨rfl, rfl⟩)
    go_ret
    exact ⟨rfl, Below.refl _ _⟩

theorem skipValue_quote_r (s : ByteArray) (i : Nat) (hs : s.size ≤ 1099511627776) (h : i < s.size) (hx : Hid (by8 s i = 34)) (r : Int) (hr : Hid (Pl.skipStr s.data.toList i = r)) (w : World) :
    Calls Try.prog 12 #[.string s, .int .i64 i] w fun e w' => e = .returned (.int .i64 r) ∧ w' = w := by
  have := skipValue_quote s i hs h hx.out w
  rw [hr.out] at this
  exact this

/-- What the law's text is. -/
theorem raw_facts (a0 a1 a2 raw : ByteArray) (m : Nat) (hm : Hid (m = a0.size + (Pl.quoted a1.data.toList).length)) (hraw : Hid (raw.data.toList = [] ++ a0.data.toList ++ Pl.quoted a1.data.toList ++ a2.data.toList)) (hrs : raw.size = m + a2.size) (hb : m + a2.size ≤ 1099511627776) :
    raw.size ≤ 1099511627776 ∧ Hid (Pl.skipStr raw.data.toList a0.size = (m : Int)) ∧ a0.size < raw.size ∧ Hid (by8 raw a0.size = 34) ∧ True := by
  have h0 : 2 ≤ (Pl.quoted a1.data.toList).length := by simp [Pl.quoted]
  have hm' := hm.out
  have e : raw.data.toList = a0.data.toList ++ (Pl.quoted a1.data.toList ++ a2.data.toList) := by rw [hraw.out]; simp
  refine ⟨by omega, ?_, by omega, ?_, trivial⟩
  · show Pl.skipStr raw.data.toList a0.size = (m : Int)
    have := Pl.skipStr_quoted a0.data.toList a1.data.toList a2.data.toList
    rw [size_list] at this
    rw [e, this, hm']
  · show by8 raw a0.size = 34
    unfold by8
    rw [e, ← size_list a0]
    simp [Pl.quoted]

set_option maxHeartbeats 1000000 in
theorem walk_main (a0 a1 a2 : ByteArray) (h : a0.size + a1.size + a2.size ≤ 1048576) (c0 : a0.size ≤ 262144) (c1 : a1.size ≤ 262144) (c2 : a2.size ≤ 262144) (w : World) :
    Calls Try.prog 4 #[.string a0, .string a1, .string a2] w fun e w' => e = .returned (.bool true) ∧ Below w.heap.size w w' := by
  obtain ⟨Z, hZ⟩ : ∃ Z, Z = w.heap.size := ⟨_, rfl⟩
  have hZ' : Z ≤ w.heap.size := by omega
  obtain ⟨m, hm⟩ : ∃ m, m = a0.size + (Pl.quoted a1.data.toList).length := ⟨_, rfl⟩
  have hml : m ≤ 2097152 := by
    have := esc_le a1.data.toList
    rw [size_list] at this
    rw [hm]; simp [Pl.quoted]; omega
  have HM : Hid (m = a0.size + (Pl.quoted a1.data.toList).length) := hm
  have HZ : Hid (Z = w.heap.size) := hZ
  clear hm hZ
  go_enter Try.func4, Try.ntmps4
  go_wp2_with (first | (go_at_call 10; refine (bytes4_yes _ _ _ h _).mono ?_; rintro e w' ⟨rfl, rfl⟩) | (at_make; refine wpList_mk0 _ rfl _ _ rfl Z _ (a0.size + 2 * a1.size + 2 + a2.size) rfl rfl (by omega) (by omega) hZ' ?_; intro ao1 cap1 w1 hown1 hbel1 hb1) | (at_builtin; refine wpList_pushs _ rfl (.tmp 40) (.tmp 41) rfl Z _ 0 [] rfl hown1 a0 rfl (by omega) hb1 a0.size (by omega) ?_; intro ao2 cap2 w2 hown2 hbel2 hb2) | (go_at_call 11; refine (appendQuoted_shape a1 (by omega) Z _ a0.size _ _ hown2 (by omega) hb2 m HM).mono ?_; rintro e w3 ⟨ao3, cap3, rfl, hown3, hbel3, hb3⟩) | (at_builtin; refine wpList_pushs _ rfl (.tmp 50) (.tmp 51) rfl Z _ m _ rfl hown3 a2 rfl (by omega) hb3 (m + a2.size) rfl ?_; intro ao4 cap4 w4 hown4 hbel4 hb4; obtain ⟨raw, hraw, hrs, hconv⟩ := own_string hown4; obtain ⟨hraw1, hraw2, hraw3, hraw4, hraw5⟩ := raw_facts a0 a1 a2 raw m HM hraw hrs (by omega)) | (go_at_call 8; refine (skipString_r raw a0.size hraw1 m hraw2 _).mono ?_; rintro e w' ⟨rfl, rfl⟩) | (go_at_call 12; refine (skipValue_quote_r raw a0.size hraw1 hraw3 hraw4 m hraw2 _).mono ?_; rintro e w' ⟨rfl, rfl⟩))
  go_ret
  refine ⟨rfl, ?_⟩
  rw [← HZ.out]
  exact ((hbel1.trans hbel2).trans hbel3).trans hbel4

theorem walk (a0 : ByteArray) (a1 : ByteArray) (a2 : ByteArray) (w0 : a0.size ≤ maxLen) (w1 : a1.size ≤ maxLen) (w2 : a2.size ≤ maxLen) (w : World) :
    Calls Try.prog 4 #[.string a0, .string a1, .string a2] w fun e w' => e = .returned (.bool true) ∧ Below w.heap.size w w' := by
  by_cases h : a0.size + a1.size + a2.size ≤ 1048576
  · by_cases h1 : a0.size ≤ 262144 ∧ a1.size ≤ 262144 ∧ a2.size ≤ 262144
    · exact walk_main a0 a1 a2 h h1.1 h1.2.1 h1.2.2 w
    · exact walk_mid a0 a1 a2 h h1 w
  · exact walk_long a0 a1 a2 w0 w1 w2 h w

/-! ### THE ROW's STEP: WRITTEN OUT: LEAVE IT -/
set_option maxRecDepth 100000 in
theorem lifted (os : Os) (started : os.Started) (H : Type) (enc : TypeId × Value → H) :
    ReturnsInHanded {} Try.checked os 4 .any (Rows.fnSkipStringStepsOverAnEscapedLiteralSpec.pre6 enc Try.prog Try.f4 Rows.fnSkipStringStepsOverAnEscapedLiteralRow.domain false) (Rows.fnSkipStringStepsOverAnEscapedLiteralSpec.post enc Try.prog Try.f4 false true false false) := by
  refine returnsInHanded_of_change (C := Try.checked) own started (by kernel_rfl) Try.func4
    (ChangeSpec.witness6 (enc := enc) (C := Try.checked) false ⟨#[], #[.string ByteArray.empty, .string ByteArray.empty, .string ByteArray.empty], []⟩ 8 (by kernel_rfl) (by kernel_rfl) (by kernel_rfl) (by kernel_rfl)) ?_
  intro W base args ds gs before hval0 hW hcnd _
  have hval : ∀ (j : Nat) t v, Try.f4.params[j]? = some t → args[j]? = some v → Value.okWide Try.prog W .any base t v := hval0
  have hW' := hW
  obtain ⟨p, q, hA0, hV, rfl, hfz, hnd⟩ := hW
  have hA : DataW.TrodAll enc Try.prog W 0 (fun _ => true) true Try.f4.params.toList args.toList ds p := hA0
  rw [Try.params4] at hA hval
  obtain ⟨v0, vs0, d0, ds0, p0, q0, hargs, rfl, rfl, h0, r0⟩ := trodAll_cons hA
  obtain ⟨v1, vs1, d1, ds1, p1, q1, rfl, rfl, rfl, h1, r1⟩ := trodAll_cons r0
  obtain ⟨v2, vs2, d2, ds2, p2, q2, rfl, rfl, rfl, h2, r2⟩ := trodAll_cons r1
  obtain ⟨rfl, rfl, rfl⟩ := trodAll_nil r2
  obtain rfl : args = #[v0, v1, v2] := by cases args; simp_all
  obtain ⟨rfl, rfl⟩ := trodVars_none hV
  obtain ⟨a0, rfl, rfl, rfl, w0⟩ := open_string Try.underlying9 (hval 0 9 v0 rfl rfl) h0
  obtain ⟨a1, rfl, rfl, rfl, w1⟩ := open_string Try.underlying9 (hval 1 9 v1 rfl rfl) h1
  obtain ⟨a2, rfl, rfl, rfl, w2⟩ := open_string Try.underlying9 (hval 2 9 v2 rfl rfl) h2
  clear hA0 hval0
  simp only [List.append_nil] at hW'
  refine (walk a0 a1 a2 w0 w1 w2 W).mono fun e W' ⟨he, bel⟩ => ?_
  subst he
  exact ⟨_, rfl, _, _, _, [], [], [], hW', trodAll_mk1 (shut_bool Try.underlying4 _), (trodAll_cons_mk (shut_string Try.underlying9 w0) (trodAll_cons_mk (shut_string Try.underlying9 w1) (trodAll_cons_mk (shut_string Try.underlying9 w2) trodAll_mk0))), rfl, bel.frame _, fun h => by cases h⟩

theorem over : Rows.fnSkipStringStepsOverAnEscapedLiteralRow.holds Try.pinned (OpenSpec.ofChange Rows.fnSkipStringStepsOverAnEscapedLiteralSpec) :=
  OpenClaim.holds_of_wide 4 Try.f4 rfl rfl rfl rfl rfl rfl rfl ⟨rfl, rfl, rfl, rfl, rfl⟩ rfl rfl rfl rfl rfl (by kernel_rfl) Try.func4 (by kernel_rfl)
    (of_decide_eq_true (by kernel_rfl)) (by unfold Func.isWrapper; first | (rw [if_pos (by decide +kernel)]; kernel_rfl) | (rw [if_neg (by decide +kernel)]; exact ⟨rfl, rfl⟩))
    (fun os started H enc _ => lifted os started H enc)

/-- The statement. -/
theorem proved : Rows.FnSkipStringStepsOverAnEscapedLiteralSaid :=
  over
end Go.Proofs.Qxb6605428a.fnSkipStringStepsOverAnEscapedLiteral
