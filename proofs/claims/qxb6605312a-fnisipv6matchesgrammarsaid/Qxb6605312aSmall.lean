import Derived.Test.Qxb6605312aBase
namespace Go.Proofs.Qxb6605312a
open Go.RowKit

theorem bit32 : ∀ n : Fin 256, (decide (97 ≤ (bits .or .u8 (n.val : Int) 32)) && decide ((bits .or .u8 (n.val : Int) 32) ≤ 102)) = ((decide (97 ≤ n.val) && decide (n.val ≤ 102)) || (decide (65 ≤ n.val) && decide (n.val ≤ 70))) := by decide +kernel

theorem hex28 (c : UInt8) (b : Bool) (hb : Hid (b = Pl.hx c)) (w : World) :
    Calls Try.prog 28 #[.int .u8 c.toNat] w fun e w' => e = .returned (.bool b) ∧ w' = w := by
  have hlt : c.toNat < 256 := c.toNat_lt
  have H : Hid (b = ((decide (48 ≤ c.toNat) && decide (c.toNat ≤ 57)) || (decide (97 ≤ (bits .or .u8 (c.toNat : Int) 32)) && decide ((bits .or .u8 (c.toNat : Int) 32) ≤ 102)))) := by
    show b = _
    rw [hb.out, bit32 ⟨c.toNat, hlt⟩]; simp [Pl.hx, Bool.or_assoc]
  clear hb
  go_enter Try.func28, Try.ntmps28
  go_wp2
  all_goals
    go_ret
    refine ⟨ret_bool ?_, rfl⟩
    have H' := H.out
    clear H
    generalize bits .or .u8 (c.toNat : Int) 32 = z at *
    subst H'
    rw [Bool.eq_iff_iff]
    simp
    omega

theorem hex32 (c : UInt8) (b : Bool) (hb : Hid (b = Pl.hx c)) (w : World) :
    Calls Try.prog 32 #[.int .u8 c.toNat] w fun e w' => e = .returned (.bool b) ∧ w' = w := by
  have hlt : c.toNat < 256 := c.toNat_lt
  go_enter Try.func32, Try.ntmps32
  go_wp2
  all_goals
    go_ret
    refine ⟨ret_bool ?_, rfl⟩
    rw [hb.out, Bool.eq_iff_iff]
    simp [Pl.hx]
    omega

/-- zzHasDot. -/
theorem dot30 (ao : Option Addr) (n cap : Nat) (bs : List UInt8) (w : World) (hV : Vw w ao n cap bs) (b : Bool) (hb : Hid (b = bs.contains 46)) :
    Calls Try.prog 30 #[.slice ao n cap] w fun e w' => e = .returned (.bool b) ∧ w' = w := by
  have hn : n ≤ 1048576 := Nat.le_trans hV.hc hV.max
  go_enter Try.func30, Try.ntmps30
  go_wp2
  go_loop [3] (fun t => ∃ k : Nat, k ≤ n ∧ t = .int .i64 k ∧ Hid (∀ j, j < k → bg bs j ≠ 46)) (fun t => n - (intOf t).toNat)
  case atStart => exact ⟨0, by omega, rfl, fun j hj => by omega⟩
  case round =>
    obtain ⟨k, hk, rfl, hno⟩ := hrel
    by_cases hlt : k < n
    · have hix := hV.ix hlt
      have hcl := hV.cell k hlt
      by_cases c : bg bs k = 46
      · have e1 : (((bg bs k).toNat : Int) == 46) = true := teq c
        have F : Hid (true = b) := by
          show true = b
          rw [hb.out, eq_comm, List.contains_iff_mem, ← c]
          exact mem_bg _ _ (by rw [hV.len]; exact hlt)
        clear c
        go_wp2
        go_ret
        exact ⟨ret_bool F.out, rfl⟩
      · have e1 : (((bg bs k).toNat : Int) == 46) = false := tne c
        have HC : Hid (bg bs k ≠ 46) := c
        clear c
        go_wp2
        go_round
        case rel =>
          refine ⟨k + 1, by omega, by go_num, fun j hj => ?_⟩
          by_cases e : j = k
          · rw [e]; exact HC.out
          · exact hno.out j (by omega)
        case measure => simp [intOf]; omega
    · have F : Hid (false = b) := by
        show false = b
        rw [hb.out, eq_comm, Bool.eq_false_iff, Ne, List.contains_iff_mem]
        intro h
        obtain ⟨j, hj, e⟩ := bg_mem _ _ h
        rw [hV.len] at hj
        exact hno.out j (by omega) e
      go_wp2
      go_ret
      exact ⟨ret_bool F.out, rfl⟩

end Go.Proofs.Qxb6605312a
