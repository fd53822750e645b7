import Derived.Test.Qxb6605312aSmall
namespace Go.Proofs.Qxb6605312a
open Go.RowKit

theorem val_lt (f : List UInt8) : (∀ x ∈ f, Pl.dg x = true) → Pl.val f < 10 ^ f.length := by
  suffices H : ∀ (f : List UInt8) (a : Nat), (∀ x ∈ f, Pl.dg x = true) → f.foldl (fun v c => v * 10 + (c.toNat - 48)) a + 1 ≤ (a + 1) * 10 ^ f.length by
    intro h; have := H f 0 h; simp only [Nat.zero_add, Nat.one_mul] at this; exact this
  intro f
  induction f with
  | nil => intro a _; simp
  | cons x f ih =>
    intro a h
    have hx := h x (List.mem_cons_self ..)
    have h1 := ih (a * 10 + (x.toNat - 48)) (fun y hy => h y (List.mem_cons_of_mem _ hy))
    simp only [Pl.dg, Bool.and_eq_true, decide_eq_true_eq] at hx
    rw [List.foldl_cons, List.length_cons]
    refine Nat.le_trans h1 ?_
    rw [Nat.pow_succ, Nat.mul_comm (10 ^ f.length) 10, ← Nat.mul_assoc]
    exact Nat.mul_le_mul_right _ (by omega)

theorem take_bg (L : List UInt8) (k : Nat) (h : k < L.length) : L.take (k + 1) = L.take k ++ [bg L k] := by
  rw [List.take_succ_eq_append_getElem h, bg_eq L k h]

theorem digs_take (L : List UInt8) (k : Nat) (h3 : k ≤ 3) (hk : k ≤ L.length) (hd : ∀ j, j < k → Pl.dg (bg L j) = true)
    (he : k = L.length ∨ k = 3 ∨ (k < L.length ∧ Pl.dg (bg L k) = false)) : Pl.digs L = L.take k := by
  have hl : ((L.take 3).takeWhile Pl.dg).length = k := by
    refine Pl.tw_len Pl.dg (L.take 3) k (by simp; omega) (fun j h hj => ?_) (fun h => ?_)
    · rw [bg_eq _ _ h, bg_take _ _ _ (by omega)]; exact hd j hj
    · rw [bg_eq _ _ h]
      simp only [List.length_take] at h
      rw [bg_take _ _ _ (by omega)]
      rcases he with e | e | ⟨_, e⟩
      · omega
      · omega
      · exact e
  unfold Pl.digs
  rw [← Pl.take_tw Pl.dg (L.take 3), hl, List.take_take, Nat.min_eq_left h3]

/-- The tests of a field of digits. -/
theorem okF_take (L : List UInt8) (k : Nat) (h3 : k ≤ 3) (hk : k ≤ L.length) (hd : ∀ j, j < k → Pl.dg (bg L j) = true) :
    Pl.okF (L.take k) = (decide (1 ≤ k) && !(decide (1 < k) && (bg L 0 == 48)) && decide (Pl.val (L.take k) ≤ 255)) := by
  have hl : (L.take k).length = k := by simp; omega
  have ha : (L.take k).all Pl.dg = true := by
    rw [List.all_eq_true]
    intro x hx
    obtain ⟨j, hj, e⟩ := bg_mem _ _ hx
    rw [hl] at hj
    rw [bg_take _ _ _ hj] at e
    exact e ▸ hd j hj
  unfold Pl.okF
  rw [hl, ha]
  by_cases h : 1 < k
  · have hh : (L.take k).head? = some (bg L 0) := by
      rw [List.head?_take, if_neg (by omega), List.head?_eq_getElem?, List.getElem?_eq_getElem (by omega), bg_eq L 0 (by omega)]
    rw [hh]
    simp [h3]
  · simp [h, h3]

def q4 (i : Nat) (L : List UInt8) : Bool :=
  if i = 0 then Pl.p4 3 L else if i ≤ 3 then (match L with | 46 :: t => Pl.p4 (3 - i) t | _ => false) else L.isEmpty

theorem p4_q4 (i : Nat) (hi : i ≤ 3) (L : List UInt8) (k : Nat) (hD : Pl.digs L = L.take k) (hk : k ≤ L.length) : Pl.p4 (3 - i) L = (Pl.okF (L.take k) && q4 (i + 1) (L.drop k)) := by
  have hl : (L.take k).length = k := by simp; omega
  by_cases h : i = 3
  · subst h
    show Pl.p4 0 L = _
    rw [Pl.p4, hD, hl]; rfl
  · have e : 3 - i = (2 - i) + 1 := by omega
    rw [e, Pl.p4, hD, hl]
    have e2 : q4 (i + 1) (L.drop k) = (match L.drop k with | 46 :: t => Pl.p4 (2 - i) t | _ => false) := by
      unfold q4
      rw [if_neg (by omega), if_pos (by omega)]
      have : 3 - (i + 1) = 2 - i := by omega
      rw [this]
    rw [e2]; rfl
theorem q4_pos (i : Nat) (h1 : i ≠ 0) (h2 : i ≤ 3) (L : List UInt8) (hl : 0 < L.length) : q4 i L = (if bg L 0 = 46 then Pl.p4 (3 - i) (L.drop 1) else false) := by
  cases L with
  | nil => simp at hl
  | cons x t =>
    unfold q4
    rw [if_neg h1, if_pos h2, bg_cons]
    by_cases e : x = 46
    · rw [if_pos e]; subst e; rfl
    · rw [if_neg e]; split
      · rename_i t' e'; exact absurd (List.cons.inj e').1 e
      · rfl
theorem q4_nil (i : Nat) (h1 : i ≠ 0) (h2 : i ≤ 3) (L : List UInt8) (hl : L.length = 0) : q4 i L = false := by
  cases L with
  | nil => unfold q4; rw [if_neg h1, if_pos h2]
  | cons x t => simp at hl
theorem q4_end (L : List UInt8) : q4 4 L = decide (L.length = 0) := by
  cases L <;> simp [q4]

set_option maxRecDepth 20000 in
set_option maxHeartbeats 4000000 in
theorem a29 (ao : Option Addr) (n cap : Nat) (bs : List UInt8) (w : World) (hV : Vw w ao n cap bs) (b : Bool) (hb : Hid (b = Pl.p4 3 bs)) :
    Calls Try.prog 29 #[.slice ao n cap] w fun e w' => e = .returned (.bool b) ∧ w' = w := by
  go_enter Try.func29, Try.ntmps29
  go_wp2
  go_loop [0, 6] (fun t u => ∃ (ao : Option Addr) (n cap i : Nat) (L : List UInt8), Vw w ao n cap L ∧ t = .slice ao n cap ∧ u = .int .i64 i ∧ i ≤ 4 ∧ Hid (b = q4 i L)) (fun t u => 4 - (intOf u).toNat)
  case atStart => exact ⟨ao, n, cap, 0, bs, hV, rfl, rfl, by omega, hb⟩
  case round =>
    clear hV hb
    obtain ⟨ao, n, cap, i, L, hV, rfl, rfl, hi, hb⟩ := hrel
    have hn : n ≤ 1048576 := Nat.le_trans hV.hc hV.max
    have hlen : Hid (L.length = n) := hV.len
    by_cases h4 : i < 4
    · by_cases h0 : i = 0
      · subst h0
        have hQ : Hid (b = Pl.p4 (3 - 0) L) := hb
        clear hb
        go_wp2
        go_loop [4, 5] (fun t u => ∃ k v : Nat, t = .int .i64 k ∧ u = .int .i64 v ∧ k ≤ 3 ∧ k ≤ n ∧ Hid (∀ j, j < k → Pl.dg (bg L j) = true) ∧ Hid (v = Pl.val (L.take k))) (fun t _ => 3 - (intOf t).toNat)
        case atStart => exact ⟨0, 0, rfl, rfl, by omega, by omega, fun j hj => by omega, rfl⟩
        case round =>
          obtain ⟨k, v, rfl, rfl, hk3, hkn, hdg, hval⟩ := hrel
          have hv10 : Hid (v < 10 ^ k) := by
            have := val_lt (L.take k) (fun x hx => by
              obtain ⟨j, hj, e⟩ := bg_mem _ _ hx
              simp only [List.length_take] at hj
              rw [bg_take _ _ _ (by omega)] at e
              exact e ▸ hdg.out j (by omega))
            rw [List.length_take, Nat.min_eq_left (by rw [hlen.out]; exact hkn)] at this
            show v < 10 ^ k
            rw [hval.out]; exact this
          have hv : v < 1000 := Nat.lt_of_lt_of_le hv10.out (Nat.pow_le_pow_right (n := 10) (by omega) hk3)
          by_cases hgo : k < n ∧ k < 3 ∧ Pl.dg (bg L k) = true
          · obtain ⟨h1, h2, h3⟩ := hgo
            have hix := hV.ix h1
            have hcl := hV.cell k h1
            have HD : Hid (Pl.dg (bg L k) = true) := h3
            simp only [Pl.dg, Bool.and_eq_true, decide_eq_true_eq] at h3
            have h48 : (48 : Int) ≤ ((bg L k).toNat : Int) := by omega
            have h57 : ((bg L k).toNat : Int) ≤ 57 := by omega
            clear h3
            go_wp2
            go_round
            case rel =>
              refine ⟨k + 1, v * 10 + ((bg L k).toNat - 48), by go_num, by go_num, by omega, by omega, fun j hj => ?_, ?_⟩
              · by_cases e : j = k
                · rw [e]; exact HD.out
                · exact hdg.out j (by omega)
              · show _ = _
                rw [take_bg L k (by rw [hlen.out]; exact h1), Pl.val_snoc, ← hval.out]
            case measure => simp [intOf] <;> omega
          · have hnd : k < n → k < 3 → Pl.dg (bg L k) = false := fun h1 h2 => by
              rw [Bool.eq_false_iff]; exact fun h3 => hgo ⟨h1, h2, h3⟩
            clear hgo
            have hP : Hid (b = ((decide (1 ≤ k) && !(decide (1 < k) && (bg L 0 == 48)) && decide (v ≤ 255)) && q4 (0 + 1) (L.drop k))) := by
              have hkL : k ≤ L.length := by rw [hlen.out]; exact hkn
              show b = _
              rw [hQ.out, p4_q4 0 (by omega) L k (digs_take L k hk3 hkL hdg.out (by
                have hl := hlen.out
                by_cases e1 : k < n
                · by_cases e2 : k < 3
                  · exact .inr (.inr ⟨by omega, hnd e1 e2⟩)
                  · exact .inr (.inl (by omega))
                · exact .inl (by omega))) hkL, okF_take L k hk3 hkL hdg.out, hval.out]
            have hex : (¬ k < n) ∨ (k < n ∧ ¬ k < 3) ∨ (k < n ∧ k < 3 ∧ ((bg L k).toNat : Int) < 48) ∨ (k < n ∧ k < 3 ∧ (48 : Int) ≤ ((bg L k).toNat : Int) ∧ (57 : Int) < ((bg L k).toNat : Int)) := by
              by_cases e1 : k < n
              · by_cases e2 : k < 3
                · have := hnd e1 e2
                  rw [Bool.eq_false_iff] at this
                  simp only [Pl.dg, ne_eq, Bool.and_eq_true, decide_eq_true_eq] at this
                  omega
                · exact .inr (.inl ⟨e1, e2⟩)
              · exact .inl e1
            clear hnd
            have hT : k = 0 ∨ (1 < k ∧ bg L 0 = 48) ∨ (1 < k ∧ bg L 0 ≠ 48 ∧ 255 < v) ∨ (k = 1 ∧ 255 < v) ∨ (1 < k ∧ bg L 0 ≠ 48 ∧ v ≤ 255) ∨ (k = 1 ∧ v ≤ 255) := by
              by_cases c : bg L 0 = 48
              · simp [c]; omega
              · simp [c]; omega
            rcases hT with hT | ⟨hT, c⟩ | ⟨hT, c, hT2⟩ | ⟨hT, hT2⟩ | ⟨hT, c, hT2⟩ | ⟨hT, hT2⟩
            · have F : Hid (false = b) := by show false = b; rw [hP.out]; simp [hT]
              have t0 : ((k : Int) == 0) = true := by rw [hT]; rfl
              rcases hex with h | ⟨h1, h2⟩ | ⟨h1, h2, h3⟩ | ⟨h1, h2, h3, h4⟩
              · clear hT
                go_wp2
                go_ret
                exact ⟨ret_bool F.out, rfl⟩
              all_goals
                first
                | (exfalso; omega)
                | (have hix := hV.ix h1
                   have hcl := hV.cell k h1
                   clear hT
                   go_wp2
                   go_ret
                   exact ⟨ret_bool F.out, rfl⟩)
            · have F : Hid (false = b) := by show false = b; rw [hP.out]; simp [hT, c]
              have t0 : ((k : Int) == 0) = false := by rw [beq_eq_false_iff_ne]; omega
              have t1 : (1 : Int) < (k : Int) := by omega
              have hx0 := hV.ix0 (by omega)
              have hc0 := hV.cell 0 (by omega)
              have e0 : (((bg L 0).toNat : Int) == 48) = true := teq c
              clear c
              rcases hex with h | ⟨h1, h2⟩ | ⟨h1, h2, h3⟩ | ⟨h1, h2, h3, h4⟩
              · clear hT
                go_wp2
                go_ret
                exact ⟨ret_bool F.out, rfl⟩
              all_goals
                first
                | (exfalso; omega)
                | (have hix := hV.ix h1
                   have hcl := hV.cell k h1
                   clear hT
                   go_wp2
                   go_ret
                   exact ⟨ret_bool F.out, rfl⟩)
            · have F : Hid (false = b) := by
                have : ¬ v ≤ 255 := by omega
                show false = b
                rw [hP.out]; simp [this]
              have t0 : ((k : Int) == 0) = false := by rw [beq_eq_false_iff_ne]; omega
              have t1 : (1 : Int) < (k : Int) := by omega
              have t2 : (255 : Int) < (v : Int) := by omega
              have hx0 := hV.ix0 (by omega)
              have hc0 := hV.cell 0 (by omega)
              have e0 : (((bg L 0).toNat : Int) == 48) = false := tne c
              clear c
              rcases hex with h | ⟨h1, h2⟩ | ⟨h1, h2, h3⟩ | ⟨h1, h2, h3, h4⟩
              · clear hT
                go_wp2
                go_ret
                exact ⟨ret_bool F.out, rfl⟩
              all_goals
                first
                | (exfalso; omega)
                | (have hix := hV.ix h1
                   have hcl := hV.cell k h1
                   clear hT
                   go_wp2
                   go_ret
                   exact ⟨ret_bool F.out, rfl⟩)
            · have F : Hid (false = b) := by
                have : ¬ v ≤ 255 := by omega
                show false = b
                rw [hP.out]; simp [this]
              have t0 : ((k : Int) == 0) = false := by rw [beq_eq_false_iff_ne]; omega
              have t1 : (k : Int) ≤ 1 := by omega
              have t2 : (255 : Int) < (v : Int) := by omega
              rcases hex with h | ⟨h1, h2⟩ | ⟨h1, h2, h3⟩ | ⟨h1, h2, h3, h4⟩
              · clear hT
                go_wp2
                go_ret
                exact ⟨ret_bool F.out, rfl⟩
              all_goals
                first
                | (exfalso; omega)
                | (have hix := hV.ix h1
                   have hcl := hV.cell k h1
                   clear hT
                   go_wp2
                   go_ret
                   exact ⟨ret_bool F.out, rfl⟩)
            · have F : Hid (b = q4 (0 + 1) (L.drop k)) := by
                have : 1 ≤ k := by omega
                show b = _
                rw [hP.out]; simp [hT, hT2, c, this]
              have t0 : ((k : Int) == 0) = false := by rw [beq_eq_false_iff_ne]; omega
              have t1 : (1 : Int) < (k : Int) := by omega
              have t2 : (v : Int) ≤ 255 := by omega
              have hx0 := hV.ix0 (by omega)
              have hc0 := hV.cell 0 (by omega)
              have e0 : (((bg L 0).toNat : Int) == 48) = false := tne c
              obtain ⟨ao2, cap2, hV2, hsl2⟩ := hV.off (lo := k) hkn
              clear c
              rcases hex with h | ⟨h1, h2⟩ | ⟨h1, h2, h3⟩ | ⟨h1, h2, h3, h4⟩
              · clear hT
                go_wp2
                go_round
                case rel => exact ⟨ao2, _, cap2, 0 + 1, _, hV2, rfl, by go_num, by omega, F⟩
                case measure => simp [intOf] <;> omega
              all_goals
                first
                | (exfalso; omega)
                | (have hix := hV.ix h1
                   have hcl := hV.cell k h1
                   clear hT
                   go_wp2
                   go_round
                   case rel => exact ⟨ao2, _, cap2, 0 + 1, _, hV2, rfl, by go_num, by omega, F⟩
                   case measure => simp [intOf] <;> omega)
            · have F : Hid (b = q4 (0 + 1) (L.drop k)) := by show b = _; rw [hP.out]; simp [hT, hT2]
              have t0 : ((k : Int) == 0) = false := by rw [beq_eq_false_iff_ne]; omega
              have t1 : (k : Int) ≤ 1 := by omega
              have t2 : (v : Int) ≤ 255 := by omega
              obtain ⟨ao2, cap2, hV2, hsl2⟩ := hV.off (lo := k) hkn
              rcases hex with h | ⟨h1, h2⟩ | ⟨h1, h2, h3⟩ | ⟨h1, h2, h3, h4⟩
              · clear hT
                go_wp2
                go_round
                case rel => exact ⟨ao2, _, cap2, 0 + 1, _, hV2, rfl, by go_num, by omega, F⟩
                case measure => simp [intOf] <;> omega
              all_goals
                first
                | (exfalso; omega)
                | (have hix := hV.ix h1
                   have hcl := hV.cell k h1
                   clear hT
                   go_wp2
                   go_round
                   case rel => exact ⟨ao2, _, cap2, 0 + 1, _, hV2, rfl, by go_num, by omega, F⟩
                   case measure => simp [intOf] <;> omega)
      · have hi3 : i ≤ 3 := by omega
        have hg0 : (0 : Int) < (i : Int) := by omega
        by_cases hz : n = 0
        · have F : Hid (false = b) := by show false = b; rw [hb.out, q4_nil i h0 hi3 L (by rw [hV.len]; exact hz)]
          have hz' : ((n : Int) == 0) = true := by rw [hz]; rfl
          go_wp2
          go_ret
          exact ⟨ret_bool F.out, rfl⟩
        · have hz' : ((n : Int) == 0) = false := by rw [beq_eq_false_iff_ne]; omega
          have hlt : 0 < n := by omega
          have hix := hV.ix0 hlt
          have hcl := hV.cell 0 hlt
          by_cases c : bg L 0 = 46
          · have e1 : (((bg L 0).toNat : Int) != 46) = false := neq c
            have hQ : Hid (b = Pl.p4 (3 - i) (L.drop 1)) := by
              show b = _
              rw [hb.out, q4_pos i h0 hi3 L (by rw [hV.len]; exact hlt), if_pos c]
            clear c hb
            obtain ⟨aoo, capo, hVo, hslo⟩ := hV.off1 hlt
            go_wp2
            clear hix hcl e1 hz' hslo hlen hlt hV
            generalize L.drop 1 = L at hVo hQ
            generalize hm : n - 1 = m at hVo
            have hn : m ≤ 1048576 := by omega
            have hlen : Hid (L.length = m) := hVo.len
            go_loop [4, 5] (fun t u => ∃ k v : Nat, t = .int .i64 k ∧ u = .int .i64 v ∧ k ≤ 3 ∧ k ≤ m ∧ Hid (∀ j, j < k → Pl.dg (bg L j) = true) ∧ Hid (v = Pl.val (L.take k))) (fun t _ => 3 - (intOf t).toNat)
            case atStart => exact ⟨0, 0, rfl, rfl, by omega, by omega, fun j hj => by omega, rfl⟩
            case round =>
              obtain ⟨k, v, rfl, rfl, hk3, hkn, hdg, hval⟩ := hrel
              have hv10 : Hid (v < 10 ^ k) := by
                have := val_lt (L.take k) (fun x hx => by
                  obtain ⟨j, hj, e⟩ := bg_mem _ _ hx
                  simp only [List.length_take] at hj
                  rw [bg_take _ _ _ (by omega)] at e
                  exact e ▸ hdg.out j (by omega))
                rw [List.length_take, Nat.min_eq_left (by rw [hlen.out]; exact hkn)] at this
                show v < 10 ^ k
                rw [hval.out]; exact this
              have hv : v < 1000 := Nat.lt_of_lt_of_le hv10.out (Nat.pow_le_pow_right (n := 10) (by omega) hk3)
              by_cases hgo : k < m ∧ k < 3 ∧ Pl.dg (bg L k) = true
              · obtain ⟨h1, h2, h3⟩ := hgo
                have hix := hVo.ix h1
                have hcl := hVo.cell k h1
                have HD : Hid (Pl.dg (bg L k) = true) := h3
                simp only [Pl.dg, Bool.and_eq_true, decide_eq_true_eq] at h3
                have h48 : (48 : Int) ≤ ((bg L k).toNat : Int) := by omega
                have h57 : ((bg L k).toNat : Int) ≤ 57 := by omega
                clear h3
                go_wp2
                go_round
                case rel =>
                  refine ⟨k + 1, v * 10 + ((bg L k).toNat - 48), by go_num, by go_num, by omega, by omega, fun j hj => ?_, ?_⟩
                  · by_cases e : j = k
                    · rw [e]; exact HD.out
                    · exact hdg.out j (by omega)
                  · show _ = _
                    rw [take_bg L k (by rw [hlen.out]; exact h1), Pl.val_snoc, ← hval.out]
                case measure => simp [intOf] <;> omega
              · have hnd : k < m → k < 3 → Pl.dg (bg L k) = false := fun h1 h2 => by
                  rw [Bool.eq_false_iff]; exact fun h3 => hgo ⟨h1, h2, h3⟩
                clear hgo
                have hP : Hid (b = ((decide (1 ≤ k) && !(decide (1 < k) && (bg L 0 == 48)) && decide (v ≤ 255)) && q4 (i + 1) (L.drop k))) := by
                  have hkL : k ≤ L.length := by rw [hlen.out]; exact hkn
                  show b = _
                  rw [hQ.out, p4_q4 i (by omega) L k (digs_take L k hk3 hkL hdg.out (by
                    have hl := hlen.out
                    by_cases e1 : k < m
                    · by_cases e2 : k < 3
                      · exact .inr (.inr ⟨by omega, hnd e1 e2⟩)
                      · exact .inr (.inl (by omega))
                    · exact .inl (by omega))) hkL, okF_take L k hk3 hkL hdg.out, hval.out]
                have hex : (¬ k < m) ∨ (k < m ∧ ¬ k < 3) ∨ (k < m ∧ k < 3 ∧ ((bg L k).toNat : Int) < 48) ∨ (k < m ∧ k < 3 ∧ (48 : Int) ≤ ((bg L k).toNat : Int) ∧ (57 : Int) < ((bg L k).toNat : Int)) := by
                  by_cases e1 : k < m
                  · by_cases e2 : k < 3
                    · have := hnd e1 e2
                      rw [Bool.eq_false_iff] at this
                      simp only [Pl.dg, ne_eq, Bool.and_eq_true, decide_eq_true_eq] at this
                      omega
                    · exact .inr (.inl ⟨e1, e2⟩)
                  · exact .inl e1
                clear hnd
                have hT : k = 0 ∨ (1 < k ∧ bg L 0 = 48) ∨ (1 < k ∧ bg L 0 ≠ 48 ∧ 255 < v) ∨ (k = 1 ∧ 255 < v) ∨ (1 < k ∧ bg L 0 ≠ 48 ∧ v ≤ 255) ∨ (k = 1 ∧ v ≤ 255) := by
                  by_cases c : bg L 0 = 48
                  · simp [c]; omega
                  · simp [c]; omega
                rcases hT with hT | ⟨hT, c⟩ | ⟨hT, c, hT2⟩ | ⟨hT, hT2⟩ | ⟨hT, c, hT2⟩ | ⟨hT, hT2⟩
                · have F : Hid (false = b) := by show false = b; rw [hP.out]; simp [hT]
                  have t0 : ((k : Int) == 0) = true := by rw [hT]; rfl
                  rcases hex with h | ⟨h1, h2⟩ | ⟨h1, h2, h3⟩ | ⟨h1, h2, h3, h4⟩
                  · clear hT
                    go_wp2
                    go_ret
                    exact ⟨ret_bool F.out, rfl⟩
                  all_goals
                    first
                    | (exfalso; omega)
                    | (have hix := hVo.ix h1
                       have hcl := hVo.cell k h1
                       clear hT
                       go_wp2
                       go_ret
                       exact ⟨ret_bool F.out, rfl⟩)
                · have F : Hid (false = b) := by show false = b; rw [hP.out]; simp [hT, c]
                  have t0 : ((k : Int) == 0) = false := by rw [beq_eq_false_iff_ne]; omega
                  have t1 : (1 : Int) < (k : Int) := by omega
                  have hx0 := hVo.ix0 (by omega)
                  have hc0 := hVo.cell 0 (by omega)
                  have e0 : (((bg L 0).toNat : Int) == 48) = true := teq c
                  clear c
                  rcases hex with h | ⟨h1, h2⟩ | ⟨h1, h2, h3⟩ | ⟨h1, h2, h3, h4⟩
                  · clear hT
                    go_wp2
                    go_ret
                    exact ⟨ret_bool F.out, rfl⟩
                  all_goals
                    first
                    | (exfalso; omega)
                    | (have hix := hVo.ix h1
                       have hcl := hVo.cell k h1
                       clear hT
                       go_wp2
                       go_ret
                       exact ⟨ret_bool F.out, rfl⟩)
                · have F : Hid (false = b) := by
                    have : ¬ v ≤ 255 := by omega
                    show false = b
                    rw [hP.out]; simp [this]
                  have t0 : ((k : Int) == 0) = false := by rw [beq_eq_false_iff_ne]; omega
                  have t1 : (1 : Int) < (k : Int) := by omega
                  have t2 : (255 : Int) < (v : Int) := by omega
                  have hx0 := hVo.ix0 (by omega)
                  have hc0 := hVo.cell 0 (by omega)
                  have e0 : (((bg L 0).toNat : Int) == 48) = false := tne c
                  clear c
                  rcases hex with h | ⟨h1, h2⟩ | ⟨h1, h2, h3⟩ | ⟨h1, h2, h3, h4⟩
                  · clear hT
                    go_wp2
                    go_ret
                    exact ⟨ret_bool F.out, rfl⟩
                  all_goals
                    first
                    | (exfalso; omega)
                    | (have hix := hVo.ix h1
                       have hcl := hVo.cell k h1
                       clear hT
                       go_wp2
                       go_ret
                       exact ⟨ret_bool F.out, rfl⟩)
                · have F : Hid (false = b) := by
                    have : ¬ v ≤ 255 := by omega
                    show false = b
                    rw [hP.out]; simp [this]
                  have t0 : ((k : Int) == 0) = false := by rw [beq_eq_false_iff_ne]; omega
                  have t1 : (k : Int) ≤ 1 := by omega
                  have t2 : (255 : Int) < (v : Int) := by omega
                  rcases hex with h | ⟨h1, h2⟩ | ⟨h1, h2, h3⟩ | ⟨h1, h2, h3, h4⟩
                  · clear hT
                    go_wp2
                    go_ret
                    exact ⟨ret_bool F.out, rfl⟩
                  all_goals
                    first
                    | (exfalso; omega)
                    | (have hix := hVo.ix h1
                       have hcl := hVo.cell k h1
                       clear hT
                       go_wp2
                       go_ret
                       exact ⟨ret_bool F.out, rfl⟩)
                · have F : Hid (b = q4 (i + 1) (L.drop k)) := by
                    have : 1 ≤ k := by omega
                    show b = _
                    rw [hP.out]; simp [hT, hT2, c, this]
                  have t0 : ((k : Int) == 0) = false := by rw [beq_eq_false_iff_ne]; omega
                  have t1 : (1 : Int) < (k : Int) := by omega
                  have t2 : (v : Int) ≤ 255 := by omega
                  have hx0 := hVo.ix0 (by omega)
                  have hc0 := hVo.cell 0 (by omega)
                  have e0 : (((bg L 0).toNat : Int) == 48) = false := tne c
                  obtain ⟨ao2, cap2, hV2, hsl2⟩ := hVo.off (lo := k) hkn
                  clear c
                  rcases hex with h | ⟨h1, h2⟩ | ⟨h1, h2, h3⟩ | ⟨h1, h2, h3, h4⟩
                  · clear hT
                    go_wp2
                    go_round
                    case rel => exact ⟨ao2, _, cap2, i + 1, _, hV2, rfl, by go_num, by omega, F⟩
                    case measure => simp [intOf] <;> omega
                  all_goals
                    first
                    | (exfalso; omega)
                    | (have hix := hVo.ix h1
                       have hcl := hVo.cell k h1
                       clear hT
                       go_wp2
                       go_round
                       case rel => exact ⟨ao2, _, cap2, i + 1, _, hV2, rfl, by go_num, by omega, F⟩
                       case measure => simp [intOf] <;> omega)
                · have F : Hid (b = q4 (i + 1) (L.drop k)) := by show b = _; rw [hP.out]; simp [hT, hT2]
                  have t0 : ((k : Int) == 0) = false := by rw [beq_eq_false_iff_ne]; omega
                  have t1 : (k : Int) ≤ 1 := by omega
                  have t2 : (v : Int) ≤ 255 := by omega
                  obtain ⟨ao2, cap2, hV2, hsl2⟩ := hVo.off (lo := k) hkn
                  rcases hex with h | ⟨h1, h2⟩ | ⟨h1, h2, h3⟩ | ⟨h1, h2, h3, h4⟩
                  · clear hT
                    go_wp2
                    go_round
                    case rel => exact ⟨ao2, _, cap2, i + 1, _, hV2, rfl, by go_num, by omega, F⟩
                    case measure => simp [intOf] <;> omega
                  all_goals
                    first
                    | (exfalso; omega)
                    | (have hix := hVo.ix h1
                       have hcl := hVo.cell k h1
                       clear hT
                       go_wp2
                       go_round
                       case rel => exact ⟨ao2, _, cap2, i + 1, _, hV2, rfl, by go_num, by omega, F⟩
                       case measure => simp [intOf] <;> omega)
          · have e1 : (((bg L 0).toNat : Int) != 46) = true := nne c
            have F : Hid (false = b) := by
              show false = b
              rw [hb.out, q4_pos i h0 hi3 L (by rw [hV.len]; exact hlt), if_neg c]
            clear c
            go_wp2
            go_ret
            exact ⟨ret_bool F.out, rfl⟩
    · have hi4 : i = 4 := by omega
      subst hi4
      have F : Hid (((n : Int) == 0) = b) := by
        show _ = b
        rw [hb.out, q4_end, hlen.out, Bool.eq_iff_iff]; simp
      go_wp2
      go_ret
      exact ⟨ret_bool F.out, rfl⟩
end Go.Proofs.Qxb6605312a
