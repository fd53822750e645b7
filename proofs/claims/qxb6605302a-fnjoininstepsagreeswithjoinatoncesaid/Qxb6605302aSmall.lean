import Derived.Test.Qxb6605302aBase
import Derived.Deep.QuietTactic
import Derived.BigQuiet
namespace Go.Proofs.Qxb6605302a
open Go.RowKit

/-- zzEndsWithSepB1. -/
def endsSep (s : ByteArray) : Bool := if s.size = 0 then false else by8 s (s.size - 1) == 63 || by8 s (s.size - 1) == 38

theorem ends12 (s : ByteArray) (hs : s.size ≤ 1099511627776) (b : Bool) (hb : Hid (endsSep s = b)) (w : World) :
    Calls Try.prog 12 #[.string s] w fun e w' => e = .returned (.bool b) ∧ w' = w := by
  by_cases h0 : s.size = 0
  · have F : Hid (b = false) := by show b = false; rw [← hb.out]; simp [endsSep, h0]
    have h0' : ((s.size : Int) == 0) = true := by rw [h0]; rfl
    go_enter Try.func12, Try.ntmps12
    go_wp2
    go_ret
    exact ⟨ret_bool F.out.symm, rfl⟩
  · have hlt : s.size - 1 < s.size := by omega
    have h0' : ((s.size : Int) == 0) = false := by rw [beq_eq_false_iff_ne]; omega
    obtain ⟨m, hm⟩ : ∃ m, s.size = m + 1 := ⟨s.size - 1, by omega⟩
    have hml : m < s.size := by omega
    by_cases c1 : by8 s m = 63
    · have F : Hid (b = true) := by show b = true; rw [← hb.out]; simp [endsSep, hm, c1]
      have e1 : ((s[m].toNat : Int) == 63) = true := tst s m hml 63 c1 63
      go_enter Try.func12, Try.ntmps12
      go_wp2
      go_ret
      exact ⟨ret_bool F.out.symm, rfl⟩
    · have e1 : ((s[m].toNat : Int) == 63) = false := tstn s m hml 63 c1 63 rfl
      by_cases c2 : by8 s m = 38
      · have F : Hid (b = true) := by show b = true; rw [← hb.out]; simp [endsSep, hm, c2]
        have e2 : ((s[m].toNat : Int) == 38) = true := tst s m hml 38 c2 38
        clear c1 c2
        go_enter Try.func12, Try.ntmps12
        go_wp2
        go_ret
        exact ⟨ret_bool F.out.symm, rfl⟩
      · have F : Hid (b = false) := by show b = false; rw [← hb.out]; simp [endsSep, hm, c1, c2]
        have e2 : ((s[m].toNat : Int) == 38) = false := tstn s m hml 38 c2 38 rfl
        clear c1 c2
        go_enter Try.func12, Try.ntmps12
        go_wp2
        go_ret
        exact ⟨ret_bool F.out.symm, rfl⟩

/-- zzContainsByteB1. -/
theorem cont13 (s : ByteArray) (hs : s.size ≤ 1099511627776) (b : Bool) (hb : Hid (b = decide ((63 : UInt8) ∈ s.data.toList))) (w : World) :
    Calls Try.prog 13 #[.string s, .int .u8 63] w fun e w' => e = .returned (.bool b) ∧ w' = w := by
  go_enter Try.func13, Try.ntmps13
  go_wp2
  go_loop [5] (fun t => ∃ k : Nat, k ≤ s.size ∧ t = .int .i64 k ∧ Hid (∀ j, j < k → by8 s j ≠ 63)) (fun t => s.size - (intOf t).toNat)
  case atStart => exact ⟨0, by omega, rfl, fun j hj => by omega⟩
  case round =>
    obtain ⟨k, hk, rfl, hno⟩ := hrel
    by_cases hlt : k < s.size
    · by_cases c : by8 s k = 63
      · have e1 : ((s[k].toNat : Int) == 63) = true := tst s k hlt 63 c 63
        have F : Hid (true = b) := by
          have hl : k < s.data.toList.length := by rw [size_list]; exact hlt
          show true = b
          rw [hb.out]
          refine (decide_eq_true ?_).symm
          have := List.getElem_mem hl
          rw [by8_list, c] at this
          exact this
        clear c
        go_wp2
        go_ret
        exact ⟨ret_bool F.out, rfl⟩
      · have e1 : ((s[k].toNat : Int) == 63) = false := tstn s k hlt 63 c 63 rfl
        have HC : Hid (by8 s k ≠ 63) := c
        clear c
        go_wp2
        go_round
        case rel =>
          refine ⟨k + 1, by omega, by go_num, fun j hj => ?_⟩
          by_cases e : j = k
          · rw [e]; exact HC.out
          · exact hno.out j (by omega)
        case measure => simp [intOf]; omega
    · have F : Hid (false = b) := by
        show false = b
        rw [hb.out]
        refine (decide_eq_false ?_).symm
        intro h
        obtain ⟨j, hj, e⟩ := List.getElem_of_mem h
        rw [by8_list] at e
        rw [size_list] at hj
        exact hno.out j (by omega) e
      go_wp2
      go_ret
      exact ⟨ret_bool F.out, rfl⟩

/-- zzHasPrefixB1, where s opens with p. -/
theorem pre17 (s p : ByteArray) (hs : s.size ≤ 1099511627776) (hl : p.size ≤ s.size) (hp : Hid (∀ j, j < p.size → by8 s j = by8 p j)) (w : World) :
    Calls Try.prog 17 #[.string s, .string p] w fun e w' => e = .returned (.bool true) ∧ ∃ n, w' = w.drewN n := by
  have hdl : decide ((s.size : Int) < (p.size : Int)) = false := decide_eq_false (by omega)
  go_enter Try.func17, Try.ntmps17
  go_wp2
  go_loopw [5] (fun t wr => ∃ (k q : Nat), k ≤ p.size ∧ t = .int .i64 k ∧ wr = w.drewN q) (fun t _ => p.size - (intOf t).toNat)
  case atStart => exact ⟨0, 0, by omega, rfl, rfl⟩
  case round =>
    obtain ⟨k, q, hk, rfl, rfl⟩ := hrel
    by_cases hlt : k < p.size
    · have hls : k < s.size := by omega
      have i1 : (k : Int) < (p.size : Int) := by omega
      have i2 : (k : Int) < (s.size : Int) := by omega
      have e : ((s[k].toNat : Int) != (p[k].toNat : Int)) = false := by
        rw [by8_eq s k hls, by8_eq p k hlt, hp.out k hlt]; simp
      go_wp2_with fail
      go_quiet (fail)
      go_wp2
      go_roundw
      case rel => exact ⟨k + 1, _, by omega, by go_num, rfl⟩
      case measure => simp [intOf]; omega
    · go_wp2
      go_ret
      exact ⟨rfl, _, rfl⟩

/-- zzHasSuffixB1, where s ends with p. -/
theorem suf18 (s p : ByteArray) (hs : s.size ≤ 1099511627776) (d : Nat) (hl : p.size + d = s.size) (hp : Hid (∀ j, j < p.size → by8 s (d + j) = by8 p j)) (w : World) :
    Calls Try.prog 18 #[.string s, .string p] w fun e w' => e = .returned (.bool true) ∧ ∃ n, w' = w.drewN n := by
  have hdl : decide ((s.size : Int) < (p.size : Int)) = false := decide_eq_false (by omega)
  have HD : Hid (p.size + d = s.size) := hl
  have hle : p.size ≤ s.size := by omega
  have hdi : (s.size : Int) - (p.size : Int) = d := by omega
  clear hl
  go_enter Try.func18, Try.ntmps18
  go_wp2
  go_loopw [6] (fun t wr => ∃ (k q : Nat), k ≤ p.size ∧ t = .int .i64 k ∧ wr = w.drewN q) (fun t _ => p.size - (intOf t).toNat)
  case atStart => exact ⟨0, 0, by omega, rfl, rfl⟩
  case round =>
    obtain ⟨k, q, hk, rfl, rfl⟩ := hrel
    by_cases hlt : k < p.size
    · have i1 : (k : Int) < (p.size : Int) := by omega
      obtain ⟨t, ht⟩ : ∃ t, t = d + k := ⟨_, rfl⟩
      have hls : t < s.size := by have := HD.out; omega
      have i2 : (t : Int) < (s.size : Int) := by omega
      have hw : IntKind.i64.wrap ((d : Int) + (k : Int)) = (t : Int) := by
        have := HD.out
        rw [IntKind.wrap_i64]; omega
      have e : ((s[t].toNat : Int) != (p[k].toNat : Int)) = false := by
        have := hp.out k hlt
        rw [← ht] at this
        rw [by8_eq s t hls, by8_eq p k hlt, this]; simp
      clear ht
      go_wp2_with fail
      go_quiet (fail)
      go_wp2
      go_roundw
      case rel => exact ⟨k + 1, _, by omega, by go_num, rfl⟩
      case measure => simp [intOf]; omega
    · go_wp2
      go_ret
      exact ⟨rfl, _, rfl⟩

end Go.Proofs.Qxb6605302a
