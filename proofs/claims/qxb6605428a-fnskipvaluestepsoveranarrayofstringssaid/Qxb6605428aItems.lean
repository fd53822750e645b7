import Derived.Test.Qxb6605428aSkip
namespace Go.Proofs.Qxb6605428a
open Go.RowKit

def sumz (l : List ByteArray) : Nat := (l.map ByteArray.size).sum
theorem sumz_take (l : List ByteArray) (k : Nat) (h : k < l.length) : sumz (l.take (k + 1)) = sumz (l.take k) + (l.getD k ByteArray.empty).size := by
  have e : l.getD k ByteArray.empty = l[k] := by rw [List.getD_eq_getElem?_getD, List.getElem?_eq_getElem h]; rfl
  rw [List.take_succ_eq_append_getElem h, e]
  simp only [sumz, List.map_append, List.sum_append, List.map_cons, List.map_nil, List.sum_cons, List.sum_nil, Nat.add_zero]
theorem sumz_le (l : List ByteArray) (k : Nat) : sumz (l.take k) ≤ sumz l := by
  have e : sumz l = sumz (l.take k) + sumz (l.drop k) := by
    unfold sumz; rw [← List.sum_append, ← List.map_append, List.take_append_drop]
  omega

theorem ret_bool {a b : Bool} (h : a = b) : Ending.returned (.bool a) = .returned (.bool b) := by rw [h]

set_option maxHeartbeats 400000 in
theorem bytes15_some (a0 a2 : ByteArray) (ad : Addr) (len cap : Nat) (ss : List ByteArray) (hlen : ss.length = len) (w : World) (w0 : a0.size ≤ maxLen) (w2 : a2.size ≤ maxLen) (hm : len ≤ maxLen)
    (hcell : ∀ j, j < len → w.cell? (ad.add j) = some (.string (ss.getD j ByteArray.empty))) (hsz : ∀ j, (ss.getD j ByteArray.empty).size ≤ maxLen) (b : Bool) (hb : Hid (b = decide (a0.size + len + sumz ss + a2.size ≤ 1048576))) :
    Calls Try.prog 15 #[.string a0, .slice (some ad) len cap, .string a2] w fun e w' => e = .returned (.bool b) ∧ w' = w := by
  unfold maxLen at w0 w2 hm
  by_cases h0 : a0.size ≤ 1048576
  · by_cases h1 : a0.size + len ≤ 1048576
    · go_enter Try.func15, Try.ntmps15
      go_wp2
      go_loop [7, 8] (fun t7 t8 => ∃ k z : Nat, k ≤ len ∧ t8 = .int .i64 k ∧ t7 = .int .i64 z ∧ z ≤ 1048576 ∧ Hid (z = a0.size + len + sumz (ss.take k))) (fun _ t8 => len - (intOf t8).toNat)
      case atStart => exact ⟨0, a0.size + len, by omega, rfl, by go_num, by omega, by simp [sumz, Hid]⟩
      case round =>
        obtain ⟨k, z, hk, rfl, rfl, hz, HZ⟩ := hrel
        by_cases hlt : k < len
        · have hc := hcell k hlt
          have hs := hsz k
          obtain ⟨s, hss⟩ : ∃ s, s = ss.getD k ByteArray.empty := ⟨_, rfl⟩
          rw [← hss] at hc hs
          have HS : Hid (s = ss.getD k ByteArray.empty) := hss
          have H1 : Hid (sumz (ss.take (k + 1)) = sumz (ss.take k) + s.size) := by have := sumz_take ss k (by omega); rw [← hss] at this; exact this
          have H2 : Hid (sumz (ss.take (k + 1)) ≤ sumz ss) := sumz_le ss (k + 1)
          clear hss hcell hsz
          unfold maxLen at hs
          by_cases hs1 : z + s.size ≤ 1048576
          · go_wp2
            go_round
            case rel => exact ⟨k + 1, z + s.size, by omega, by go_num, by go_num, by omega, by have := HZ.out; have := H1.out; show _ = _; omega⟩
            case measure => simp [intOf]; omega
          · have F : Hid (b = false) := by
              have := HZ.out; have := H1.out; have := H2.out
              show b = false
              rw [hb.out]; exact decide_eq_false (by omega)
            have hs3 : (1048576 : Int) < (z : Int) + (s.size : Int) := by omega
            clear hs1
            by_cases hs2 : s.size ≤ 1048576
            · go_wp2
              go_ret
              exact ⟨ret_bool F.out.symm, rfl⟩
            · go_wp2
              go_ret
              exact ⟨ret_bool F.out.symm, rfl⟩
        · have H3 : Hid (z = a0.size + len + sumz ss) := by
            have := HZ.out; rw [List.take_of_length_le (by omega)] at this; exact this
          clear hcell hsz
          by_cases hs1 : z + a2.size ≤ 1048576
          · have F : Hid (b = true) := by
              have := H3.out
              show b = true
              rw [hb.out]; exact decide_eq_true (by omega)
            go_wp2
            go_ret
            exact ⟨ret_bool F.out.symm, rfl⟩
          · have F : Hid (b = false) := by
              have := H3.out
              show b = false
              rw [hb.out]; exact decide_eq_false (by omega)
            have hs3 : (1048576 : Int) < (z : Int) + (a2.size : Int) := by omega
            clear hs1
            by_cases hs2 : a2.size ≤ 1048576
            · go_wp2
              go_ret
              exact ⟨ret_bool F.out.symm, rfl⟩
            · go_wp2
              go_ret
              exact ⟨ret_bool F.out.symm, rfl⟩
    · have F : Hid (b = false) := by
        show b = false
        rw [hb.out]; exact decide_eq_false (by omega)
      by_cases hs2 : len ≤ 1048576
      · go_enter Try.func15, Try.ntmps15
        go_wp2
        go_ret
        exact ⟨ret_bool F.out.symm, rfl⟩
      · go_enter Try.func15, Try.ntmps15
        go_wp2
        go_ret
        exact ⟨ret_bool F.out.symm, rfl⟩
  · have F : Hid (b = false) := by
      show b = false
      rw [hb.out]; exact decide_eq_false (by omega)
    go_enter Try.func15, Try.ntmps15
    go_wp2
    go_ret
    exact ⟨ret_bool F.out.symm, rfl⟩

theorem bytes15_nil (a0 a2 : ByteArray) (w : World) (w0 : a0.size ≤ maxLen) (w2 : a2.size ≤ maxLen) (b : Bool) (hb : Hid (b = decide (a0.size + a2.size ≤ 1048576))) :
    Calls Try.prog 15 #[.string a0, .slice none 0 0, .string a2] w fun e w' => e = .returned (.bool b) ∧ w' = w := by
  unfold maxLen at w0 w2
  by_cases h0 : a0.size ≤ 1048576
  · go_enter Try.func15, Try.ntmps15
    go_wp2
    go_loop [7, 8] (fun t7 t8 => t8 = .int .i64 0 ∧ t7 = .int .i64 a0.size) (fun _ t8 => 0)
    case atStart => exact ⟨rfl, rfl⟩
    case round =>
      obtain ⟨rfl, rfl⟩ := hrel
      by_cases hs1 : a0.size + a2.size ≤ 1048576
      · have F : Hid (b = true) := by
          show b = true
          rw [hb.out]; exact decide_eq_true (by omega)
        go_wp2
        go_ret
        exact ⟨ret_bool F.out.symm, rfl⟩
      · have F : Hid (b = false) := by
          show b = false
          rw [hb.out]; exact decide_eq_false (by omega)
        by_cases hs2 : a2.size ≤ 1048576
        · go_wp2
          go_ret
          exact ⟨ret_bool F.out.symm, rfl⟩
        · go_wp2
          go_ret
          exact ⟨ret_bool F.out.symm, rfl⟩
  · have F : Hid (b = false) := by
      show b = false
      rw [hb.out]; exact decide_eq_false (by omega)
    go_enter Try.func15, Try.ntmps15
    go_wp2
    go_ret
    exact ⟨ret_bool F.out.symm, rfl⟩

end Go.Proofs.Qxb6605428a
