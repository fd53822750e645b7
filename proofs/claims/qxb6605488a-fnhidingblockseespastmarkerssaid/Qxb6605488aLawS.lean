import Derived.Test.Qxb6605488aHide
import Derived.Below
namespace Go.Proofs.Qxb6605488a.fnHidingBlockSeesPastMarkers
open Go.RowKit
set_option linter.unusedVariables false

theorem bytes10 (a0 : ByteArray) (w0 : a0.size ≤ maxLen) (b : Bool) (hb : Hid (b = decide (a0.size ≤ 1048576))) (w : World) :
    Calls Try.prog 10 #[.string a0] w fun e w' => e = .returned (.bool b) ∧ w' = w := by
  unfold maxLen at w0
  by_cases h : a0.size ≤ 1048576
  · have F : Hid (b = true) := by show b = true; rw [hb.out]; exact decide_eq_true h
    go_enter Try.func10, Try.ntmps10
    go_wp2
    go_ret
    exact ⟨ret_bool F.out.symm, rfl⟩
  · have F : Hid (b = false) := by show b = false; rw [hb.out]; exact decide_eq_false h
    go_enter Try.func10, Try.ntmps10
    go_wp2
    go_ret
    exact ⟨ret_bool F.out.symm, rfl⟩

theorem walk_long (a0 : ByteArray) (w0 : a0.size ≤ maxLen) (h : ¬ a0.size ≤ 1048576) (w : World) :
    Calls Try.prog 4 #[.string a0] w fun e w' => e = .returned (.bool true) ∧ Below w.heap.size w w' := by
  have hb : Hid (false = decide (a0.size ≤ 1048576)) := by show false = _; simp [h]
  clear h
  go_enter Try.func4, Try.ntmps4
  go_wp2_with (go_at_call 10; refine (bytes10 a0 w0 false hb _).mono ?_; rintro e w' ⟨rfl, rfl⟩)
  go_ret
  exact ⟨rfl, Below.refl _ _⟩

theorem hide8 (s : ByteArray) (hs : s.size ≤ 16777216) (r : Int) (hr : Hid (Pl.hid s.data.toList = r)) (w : World) :
    Calls Try.prog 8 #[.string s] w fun e w' => e = .returned (.int .i64 r) ∧ ∃ n, w' = w.drewN n := by
  go_enter Try.func8, Try.ntmps8
  go_wp2_with (go_at_call 21; refine (hide21 s hs r hr _).mono ?_; rintro e w' ⟨rfl, n, rfl⟩)
  go_ret
  exact ⟨rfl, n, rfl⟩

theorem app_list (a b : ByteArray) : (a ++ b).data.toList = a.data.toList ++ b.data.toList := by
  rw [ByteArray.data_append, Array.toList_append]

/-- The three texts. -/
theorem facts (s : ByteArray) (r : Int) (hr : Pl.hid s.data.toList = r) :
    (r = -1 ∧ Hid (Pl.hid ((⟨#[62, 32, 49, 46, 32]⟩ : ByteArray) ++ s).data.toList = -1)) ∨
    ∃ k : Nat, r = k ∧ k < s.size ∧ Hid (Pl.hid ((⟨#[62, 32, 49, 46, 32]⟩ : ByteArray) ++ s).data.toList = (k : Int) + 5) ∧ Hid (∀ m, m < k → Pl.mk (by8 s m) = true) ∧ Hid (by8 s k = 126 ∨ by8 s k = 96 ∨ by8 s k = 91) ∧
      Hid (Pl.hid (s.extract 0 k ++ (⟨#[92]⟩ : ByteArray) ++ s.extract k s.size).data.toList = -1) := by
  have hA : ∀ x ∈ ([62, 32, 49, 46, 32] : List UInt8), Pl.mk x = true := by decide
  have hsh := Pl.hid_shift [62, 32, 49, 46, 32] s.data.toList hA
  have e1 : ((⟨#[62, 32, 49, 46, 32]⟩ : ByteArray) ++ s).data.toList = [62, 32, 49, 46, 32] ++ s.data.toList := app_list _ _
  rw [← e1] at hsh
  rcases Pl.hid_found s.data.toList with h | ⟨h, x, t, hd, hx⟩
  · left
    rw [h] at hr hsh
    exact ⟨hr.symm, hsh.trans (if_pos rfl)⟩
  · right
    have hk : Pl.np s.data.toList < s.size := by
      have := congrArg List.length hd
      rw [List.length_drop, size_list] at this
      simp at this
      omega
    have hm := Pl.np_marks s.data.toList
    refine ⟨Pl.np s.data.toList, by rw [← hr, h], hk, ?_, fun m hmk => ?_, ?_, ?_⟩
    · show _ = _
      rw [hsh, h, if_neg (by omega)]; rfl
    · have hml : m < s.data.toList.length := by rw [size_list]; omega
      have h1 : m < (s.data.toList.take (Pl.np s.data.toList)).length := by rw [List.length_take]; omega
      have h2 := hm _ (List.getElem_mem h1)
      rw [List.getElem_take, by8_list] at h2
      exact h2
    · have h1 := head_by8 s (Pl.np s.data.toList) hk
      rw [hd] at h1
      simp only [List.head?_cons, Option.some.injEq] at h1
      show by8 s (Pl.np s.data.toList) = 126 ∨ _
      rw [← h1]; exact hx
    · show _ = _
      have e2 : (s.extract 0 (Pl.np s.data.toList) ++ (⟨#[92]⟩ : ByteArray) ++ s.extract (Pl.np s.data.toList) s.size).data.toList = s.data.toList.take (Pl.np s.data.toList) ++ 92 :: s.data.toList.drop (Pl.np s.data.toList) := by
        rw [app_list, app_list, extract_list]
        have : (s.extract 0 (Pl.np s.data.toList)).data.toList = s.data.toList.take (Pl.np s.data.toList) := by simp
        rw [this]; simp
      rw [e2]
      exact Pl.hid_bs _ _ hm

theorem drew3 (w : World) (a x n : Nat) : (w.drewN (a + x)).drewN n = w.drewN (a + (x + n)) := by
  rw [World.drewN_drewN, Nat.add_assoc]

set_option maxHeartbeats 1000000 in
theorem walk_main (a0 : ByteArray) (h : a0.size ≤ 1048576) (w : World) :
    Calls Try.prog 4 #[.string a0] w fun e w' => e = .returned (.bool true) ∧ Below w.heap.size w w' := by
  have hb : Hid (true = decide (a0.size ≤ 1048576)) := by show true = _; simp [h]
  have w0 : a0.size ≤ maxLen := by unfold maxLen; omega
  obtain ⟨r, hr⟩ : ∃ r, Pl.hid a0.data.toList = r := ⟨_, rfl⟩
  have HR : Hid (Pl.hid a0.data.toList = r) := hr
  have hsz : ((⟨#[62, 32, 49, 46, 32]⟩ : ByteArray) ++ a0).size ≤ 16777216 := by
    rw [← size_list, app_list, List.length_append, size_list, size_list]; have : (⟨#[62, 32, 49, 46, 32]⟩ : ByteArray).size = 5 := rfl; omega
  rcases facts a0 r hr with ⟨hr1, hq⟩ | ⟨k, hr1, hk, hq, hmk, hop, hbs⟩
  · subst hr1
    clear hr
    go_enter Try.func4, Try.ntmps4
    go_wp2_with (go_at_call 10; refine (bytes10 a0 w0 true hb _).mono ?_; rintro e w' ⟨rfl, rfl⟩)
    refine (hide8 a0 (by omega) (-1) HR _).mono ?_
    rintro e w1 ⟨rfl, n1, rfl⟩
    go_wp2_with fail
    refine (hide8 _ hsz (-1) hq _).mono ?_
    rintro e w1 ⟨rfl, n2, rfl⟩
    go_wp2
    go_ret
    exact ⟨rfl, below_drewN (Below.refl _ _) _⟩
  · subst hr1
    clear hr
    have hd34 : decide (a0.size ≤ k) = false := decide_eq_false (by omega)
    have hd12 : decide ((1048576 : Int) < (a0.size : Int)) = false := decide_eq_false (by omega)
    have hd19 : decide ((k : Int) < 0) = false := decide_eq_false (by omega)
    go_enter Try.func4, Try.ntmps4
    go_wp2_with (go_at_call 10; refine (bytes10 a0 w0 true hb _).mono ?_; rintro e w' ⟨rfl, rfl⟩)
    refine (hide8 a0 (by omega) k HR _).mono ?_
    rintro e w1 ⟨rfl, n1, rfl⟩
    go_wp2_with fail
    refine (hide8 _ hsz _ hq _).mono ?_
    rintro e w1 ⟨rfl, n2, rfl⟩
    go_wp2_with fail
    go_loop [5] (fun t => ∃ m : Nat, m ≤ k ∧ t = .int .i64 m) (fun t => k - (intOf t).toNat)
    case atStart => exact ⟨0, by omega, rfl⟩
    case round =>
      obtain ⟨m, hm, rfl⟩ := hrel
      by_cases hlt : m < k
      · have hms : m < a0.size := by omega
        have H8 : Hid ((a0[m].toNat : Int) = (by8 a0 m).toNat) := by show (a0[m].toNat : Int) = _; rw [by8_eq a0 m hms]
        have HMK : Hid (Pl.mk (by8 a0 m) = true) := hmk.out m hlt
        go_wp2_with (go_at_call 11; refine (marker_r _ (by8 a0 m) H8 true HMK _).mono ?_; rintro e wx ⟨rfl, rfl⟩)
        go_round
        case rel => exact ⟨m + 1, by omega, by go_num⟩
        case measure => simp [intOf]; omega
      · have i1 : (k : Int) ≤ (a0.size : Int) := by omega
        have hsz2 : (a0.extract 0 k ++ (⟨#[92]⟩ : ByteArray) ++ a0.extract k a0.size).size ≤ 16777216 := by
          rw [← size_list, app_list, app_list, List.length_append, List.length_append, extract_list, List.length_drop, size_list, size_list]
          have h1 : (a0.extract 0 k).size ≤ a0.size := by rw [← size_list, ← size_list a0]; simp; omega
          have h2 : (⟨#[92]⟩ : ByteArray).size = 1 := rfl
          have h3 := size_list a0
          omega
        have three : (((a0[k].toNat : Int) != 91) = false ∧ True) ∨ (((a0[k].toNat : Int) != 91) = true ∧ ((a0[k].toNat : Int) != 96) = false) ∨ (((a0[k].toNat : Int) != 91) = true ∧ ((a0[k].toNat : Int) != 96) = true ∧ ((a0[k].toNat : Int) != 126) = false) := by
          rw [by8_eq a0 k hk]
          rcases hop.out with e | e | e <;> rw [e] <;> decide
        have hx1 : (a0.extract 0 k).size ≤ 1048576 := by
          rw [← size_list]; have := size_list a0; simp; omega
        have hx2 : (a0.extract k a0.size).size ≤ 1048576 := by
          rw [← size_list, extract_list, List.length_drop, size_list]; omega
        have hs1 := fun wx : World => run_string_add_sum (P := Try.prog) wx (a0.extract 0 k) ⟨#[92]⟩ (by have : (⟨#[92]⟩ : ByteArray).size = 1 := rfl; omega)
        have hs2 := fun wx : World => run_string_add_sum (P := Try.prog) wx (a0.extract 0 k ++ ⟨#[92]⟩) (a0.extract k a0.size) (by
          have h3 : (a0.extract 0 k ++ (⟨#[92]⟩ : ByteArray)).size = (a0.extract 0 k).size + 1 := by rw [← size_list, app_list, List.length_append, size_list]; rfl
          omega)
        clear hop hmk
        rcases three with ⟨e1, _⟩ | ⟨e1, e2⟩ | ⟨e1, e2, e3⟩
        all_goals go_wp2_with fail
        all_goals
          go_quiet ((go_at_call 8; refine (hide8 _ hsz2 (-1) hbs _).mono ?_; rintro _ _ ⟨rfl, n, rfl⟩; exact ⟨rfl, _, drew3 _ _ _ _⟩))
          go_wp2
          go_ret
          exact ⟨rfl, below_drewN (below_drewN (Below.refl _ _) _) _⟩

theorem walk (a0 : ByteArray) (w0 : a0.size ≤ maxLen) (w : World) :
    Calls Try.prog 4 #[.string a0] w fun e w' => e = .returned (.bool true) ∧ Below w.heap.size w w' := by
  by_cases h : a0.size ≤ 1048576
  · exact walk_main a0 h w
  · exact walk_long a0 w0 h w

end Go.Proofs.Qxb6605488a.fnHidingBlockSeesPastMarkers
