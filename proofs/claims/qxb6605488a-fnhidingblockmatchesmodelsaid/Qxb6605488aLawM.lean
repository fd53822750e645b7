import Derived.Test.Qxb6605488aWalkM
import Derived.Below
namespace Go.Proofs.Qxb6605488a.fnHidingBlockMatchesModel
open Go.RowKit
set_option linter.unusedVariables false

theorem bytes7 (a0 : ByteArray) (w0 : a0.size ≤ maxLen) (b : Bool) (hb : Hid (b = decide (a0.size ≤ 1048576))) (w : World) :
    Calls Try.prog 7 #[.string a0] w fun e w' => e = .returned (.bool b) ∧ w' = w := by
  unfold maxLen at w0
  by_cases h : a0.size ≤ 1048576
  · have F : Hid (b = true) := by show b = true; rw [hb.out]; exact decide_eq_true h
    go_enter Try.func7, Try.ntmps7
    go_wp2
    go_ret
    exact ⟨ret_bool F.out.symm, rfl⟩
  · have F : Hid (b = false) := by show b = false; rw [hb.out]; exact decide_eq_false h
    go_enter Try.func7, Try.ntmps7
    go_wp2
    go_ret
    exact ⟨ret_bool F.out.symm, rfl⟩

theorem hide8 (s : ByteArray) (hs : s.size ≤ 16777216) (r : Int) (hr : Hid (Pl.hid s.data.toList = r)) (w : World) :
    Calls Try.prog 8 #[.string s] w fun e w' => e = .returned (.int .i64 r) ∧ ∃ n, w' = w.drewN n := by
  go_enter Try.func8, Try.ntmps8
  go_wp2_with (go_at_call 21; refine (hide21 s hs r hr _).mono ?_; rintro e w' ⟨rfl, n, rfl⟩)
  go_ret
  exact ⟨rfl, n, rfl⟩

theorem walk (a0 : ByteArray) (w0 : a0.size ≤ maxLen) (w : World) :
    Calls Try.prog 3 #[.string a0] w fun e w' => e = .returned (.bool true) ∧ Below w.heap.size w w' := by
  by_cases h : a0.size ≤ 1048576
  · have hb : Hid (true = decide (a0.size ≤ 1048576)) := by show true = _; simp [h]
    obtain ⟨r, hr⟩ : ∃ r, Pl.hid a0.data.toList = r := ⟨_, rfl⟩
    have HR : Hid (Pl.hid a0.data.toList = r) := hr
    clear hr
    go_enter Try.func3, Try.ntmps3
    go_wp2_with (first | (go_at_call 7; refine (bytes7 a0 w0 true hb _).mono ?_; rintro e w' ⟨rfl, rfl⟩) | (go_at_call 8; refine (hide8 a0 (by omega) r HR _).mono ?_; rintro e w' ⟨rfl, n1, rfl⟩) | (go_at_call 9; refine (model9 a0 (by omega) r HR _).mono ?_; rintro e w' ⟨rfl, n2, rfl⟩))
    go_ret
    exact ⟨rfl, below_drewN (Below.refl _ _) _⟩
  · have hb : Hid (false = decide (a0.size ≤ 1048576)) := by show false = _; simp [h]
    clear h
    go_enter Try.func3, Try.ntmps3
    go_wp2_with (go_at_call 7; refine (bytes7 a0 w0 false hb _).mono ?_; rintro e w' ⟨rfl, rfl⟩)
    go_ret
    exact ⟨rfl, Below.refl _ _⟩

end Go.Proofs.Qxb6605488a.fnHidingBlockMatchesModel
