import Derived.Test.Qxb6605302aAmp
namespace Go.Proofs.Qxb6605302a
open Go.RowKit

/-- What is known of a slice of strings that came in: nil or not. -/
structure SlOk (w : World) (ao : Option Addr) (n cap : Nat) (ad : Addr) (ss : List ByteArray) : Prop where
  len : ss.length = n
  max : n ≤ maxLen
  cell : ∀ j, j < n → w.cell? (ad.add j) = some (.string (ss.getD j ByteArray.empty))
  sz : ∀ j, (ss.getD j ByteArray.empty).size ≤ maxLen
  ix : ∀ k : Nat, k < n → ∀ wx : World, (Instr.indexAt 28 (.slice ao n cap) (.int .i64 k)).run Try.prog wx = .ok (.pointer (some (ad.add k))) wx
  some : n ≠ 0 → ao = some ad

theorem ix_some (ad : Addr) (n cap k : Nat) (hk : k < n) (wx : World) : (Instr.indexAt 28 (.slice (some ad) n cap) (.int .i64 k)).run Try.prog wx = .ok (.pointer (some (ad.add k))) wx := by
  have h1 : (0 : Int) ≤ (k : Int) ∧ (k : Int) < (n : Int) := by omega
  have he : Try.prog.elem 28 = 9 := by kernel_rfl
  rw [run_indexAt_slice wx 28 ad n cap .i64 k (by rw [he]; exact Try.underlying28), if_pos h1, he]
  simp [Try.sizeOf9]

set_option maxHeartbeats 1000000 in
theorem bytes11 (a0 : ByteArray) (po qo : Option Addr) (np nq cp cq : Nat) (pd qd : Addr) (ps qs : List ByteArray) (w : World) (w0 : a0.size ≤ maxLen) (hP : SlOk w po np cp pd ps) (hQ : SlOk w qo nq cq qd qs)
    (b : Bool) (hb : Hid (b = decide (a0.size + np + sumz ps + nq + sumz qs ≤ 1048576))) :
    Calls Try.prog 11 #[.string a0, .slice po np cp, .slice qo nq cq] w fun e w' => e = .returned (.bool b) ∧ w' = w := by
  have hmp := hP.max
  have hmq := hQ.max
  unfold maxLen at w0 hmp hmq
  have no : ∀ (x : Nat), 1048576 < x → x ≤ a0.size + np + sumz ps + nq + sumz qs → Hid (b = false) := fun x h1 h2 => by
    show b = false
    rw [hb.out]; exact decide_eq_false (by omega)
  have NO : Hid (∀ (x : Nat), 1048576 < x → x ≤ a0.size + np + sumz ps + nq + sumz qs → Hid (b = false)) := no
  clear no
  by_cases h0 : a0.size ≤ 1048576
  · by_cases h1 : a0.size + np ≤ 1048576
    · go_enter Try.func11, Try.ntmps11
      go_wp2
      go_loop [7, 8] (fun t7 t8 => ∃ k z : Nat, k ≤ np ∧ t8 = .int .i64 k ∧ t7 = .int .i64 z ∧ z ≤ 1048576 ∧ Hid (z = a0.size + np + sumz (ps.take k))) (fun _ t8 => np - (intOf t8).toNat)
      case atStart => exact ⟨0, a0.size + np, by omega, rfl, by go_num, by omega, by simp [sumz, Hid]⟩
      case round =>
        obtain ⟨k, z, hk, rfl, rfl, hz, HZ⟩ := hrel
        by_cases hlt : k < np
        · have hc := hP.cell k hlt
          have hs := hP.sz k
          have hix := hP.ix k hlt
          obtain ⟨s, hss⟩ : ∃ s, s = ps.getD k ByteArray.empty := ⟨_, rfl⟩
          rw [← hss] at hc hs
          have H1 : Hid (sumz (ps.take (k + 1)) = sumz (ps.take k) + s.size) := by have := sumz_take ps k (by have := hP.len; omega); rw [← hss] at this; exact this
          have H2 : Hid (sumz (ps.take (k + 1)) ≤ sumz ps) := sumz_le ps (k + 1)
          clear hss
          unfold maxLen at hs
          by_cases hs1 : z + s.size ≤ 1048576
          · go_wp2
            go_round
            case rel => exact ⟨k + 1, z + s.size, by omega, by go_num, by go_num, by omega, by have := HZ.out; have := H1.out; show _ = _; omega⟩
            case measure => simp [intOf]; omega
          · have F := NO.out (z + s.size) (by omega) (by have := HZ.out; have := H1.out; have := H2.out; omega)
            have hs3 : (1048576 : Int) < (z : Int) + (s.size : Int) := by omega
            clear hs1
            by_cases hs2 : s.size ≤ 1048576
            · go_wp2
              go_ret
              exact ⟨ret_bool F.out.symm, rfl⟩
            · go_wp2
              go_ret
              exact ⟨ret_bool F.out.symm, rfl⟩
        · have H3 : Hid (z = a0.size + np + sumz ps) := by
            have := HZ.out; rw [List.take_of_length_le (by have := hP.len; omega)] at this; exact this
          clear HZ
          by_cases h2 : z + nq ≤ 1048576
          · go_wp2
            go_loop [7, 9] (fun t7 t9 => ∃ k y : Nat, k ≤ nq ∧ t9 = .int .i64 k ∧ t7 = .int .i64 y ∧ y ≤ 1048576 ∧ Hid (y = z + nq + sumz (qs.take k))) (fun _ t9 => nq - (intOf t9).toNat)
            case atStart => exact ⟨0, z + nq, by omega, rfl, by go_num, by omega, by simp [sumz, Hid]⟩
            case round =>
              obtain ⟨j, y, hj, rfl, rfl, hy, HY⟩ := hrel
              by_cases hjl : j < nq
              · have hc := hQ.cell j hjl
                have hs := hQ.sz j
                have hix := hQ.ix j hjl
                obtain ⟨s, hss⟩ : ∃ s, s = qs.getD j ByteArray.empty := ⟨_, rfl⟩
                rw [← hss] at hc hs
                have H1 : Hid (sumz (qs.take (j + 1)) = sumz (qs.take j) + s.size) := by have := sumz_take qs j (by have := hQ.len; omega); rw [← hss] at this; exact this
                have H2 : Hid (sumz (qs.take (j + 1)) ≤ sumz qs) := sumz_le qs (j + 1)
                clear hss
                unfold maxLen at hs
                by_cases hs1 : y + s.size ≤ 1048576
                · go_wp2
                  go_round
                  case rel => exact ⟨j + 1, y + s.size, by omega, by go_num, by go_num, by omega, by have := HY.out; have := H1.out; show _ = _; omega⟩
                  case measure => simp [intOf]; omega
                · have F := NO.out (y + s.size) (by omega) (by have := HY.out; have := H1.out; have := H2.out; have := H3.out; omega)
                  have hs3 : (1048576 : Int) < (y : Int) + (s.size : Int) := by omega
                  clear hs1
                  by_cases hs2 : s.size ≤ 1048576
                  · go_wp2
                    go_ret
                    exact ⟨ret_bool F.out.symm, rfl⟩
                  · go_wp2
                    go_ret
                    exact ⟨ret_bool F.out.symm, rfl⟩
              · have F : Hid (b = true) := by
                  have h3 := H3.out
                  have h4 := HY.out
                  rw [List.take_of_length_le (by have := hQ.len; omega)] at h4
                  show b = true
                  rw [hb.out]; exact decide_eq_true (by omega)
                go_wp2
                go_ret
                exact ⟨ret_bool F.out.symm, rfl⟩
          · have F := NO.out (z + nq) (by omega) (by have := H3.out; omega)
            have hs3 : (1048576 : Int) < (z : Int) + (nq : Int) := by omega
            clear h2
            by_cases hs2 : nq ≤ 1048576
            · go_wp2
              go_ret
              exact ⟨ret_bool F.out.symm, rfl⟩
            · go_wp2
              go_ret
              exact ⟨ret_bool F.out.symm, rfl⟩
    · have F := NO.out (a0.size + np) (by omega) (by omega)
      have hs3 : (1048576 : Int) < (a0.size : Int) + (np : Int) := by omega
      clear h1
      by_cases hs2 : np ≤ 1048576
      · go_enter Try.func11, Try.ntmps11
        go_wp2
        go_ret
        exact ⟨ret_bool F.out.symm, rfl⟩
      · go_enter Try.func11, Try.ntmps11
        go_wp2
        go_ret
        exact ⟨ret_bool F.out.symm, rfl⟩
  · have F := NO.out a0.size (by omega) (by omega)
    go_enter Try.func11, Try.ntmps11
    go_wp2
    go_ret
    exact ⟨ret_bool F.out.symm, rfl⟩

end Go.Proofs.Qxb6605302a
