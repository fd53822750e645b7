import Derived.Test.Qxb6605312aV4
namespace Go.Proofs.Qxb6605312a
open Go.RowKit

theorem tw_take (f : UInt8 → Bool) (L : List UInt8) (k : Nat) (hk : k ≤ L.length) (h1 : ∀ j, j < k → f (bg L j) = true) (h2 : k < L.length → f (bg L k) = false) :
    L.takeWhile f = L.take k ∧ L.dropWhile f = L.drop k := by
  have hl : (L.takeWhile f).length = k := Pl.tw_len f L k hk (fun j h hj => by rw [bg_eq _ _ h]; exact h1 j hj) (fun h => by rw [bg_eq _ _ h]; exact h2 h)
  exact ⟨by rw [← Pl.take_tw f L, hl], by rw [← Pl.drop_tw f L, hl]⟩

def R4 (p : Nat) (L : List UInt8) : Bool := if p ≤ 3 then Pl.s4 (3 - p) L else false
def St4 (b : Bool) (bs : List UInt8) (n p s i : Nat) : Prop :=
  (i ≤ n ∧ s ≤ i ∧ p ≤ 4 ∧ (∀ j, s ≤ j → j < i → bg bs j ≠ 46) ∧ b = R4 p (bs.drop s)) ∨ (i = n + 1 ∧ s = n + 1 ∧ p ≤ 4 ∧ b = decide (p = 4))

theorem R4_step (bs : List UInt8) (n p s i : Nat) (hl : bs.length = n) (hi : i ≤ n) (hs : s ≤ i) (hp : p ≤ 3) (hno : ∀ j, s ≤ j → j < i → bg bs j ≠ 46) (hst : i < n → bg bs i = 46) :
    R4 p (bs.drop s) = (Pl.okF ((bs.drop s).take (i - s)) && if i = n then decide (p + 1 = 4) else R4 (p + 1) (bs.drop (i + 1))) := by
  have hL : (bs.drop s).length = n - s := by rw [List.length_drop, hl]
  obtain ⟨e1, e2⟩ := tw_take (· != 46) (bs.drop s) (i - s) (by rw [hL]; omega)
    (fun j hj => by rw [bg_drop, bne_iff_ne]; exact hno _ (by omega) (by omega))
    (fun h => by rw [hL] at h; rw [bg_drop, show s + (i - s) = i by omega, hst (by omega)]; rfl)
  have e3 : (bs.drop s).drop (i - s) = bs.drop i := by rw [List.drop_drop, show s + (i - s) = i by omega]
  have hF : Pl.fld (bs.drop s) = (bs.drop s).take (i - s) := e1
  have hR : Pl.rst (bs.drop s) = bs.drop i := by rw [← e3]; exact e2
  unfold R4
  rw [if_pos hp]
  by_cases e : i = n
  · rw [if_pos e]
    have hR' : Pl.rst (bs.drop s) = [] := by rw [hR]; exact List.drop_eq_nil_of_le (by omega)
    by_cases h3 : p = 3
    · subst h3
      show Pl.s4 0 _ = _
      rw [Pl.s4, hF, hR']; rfl
    · rw [show 3 - p = (2 - p) + 1 by omega, Pl.s4, hF, hR', decide_eq_false (show ¬ p + 1 = 4 by omega)]
  · rw [if_neg e]
    have hR' : Pl.rst (bs.drop s) = 46 :: bs.drop (i + 1) := by rw [hR, drop_bg bs i (by omega), hst (by omega)]
    by_cases h3 : p = 3
    · subst h3
      show Pl.s4 0 _ = _
      rw [Pl.s4, hF, hR']; rfl
    · rw [show 3 - p = (2 - p) + 1 by omega, Pl.s4, hF, hR', if_pos (show p + 1 ≤ 3 by omega), show 3 - (p + 1) = 2 - p by omega]; rfl

theorem St4_next (b : Bool) (bs : List UInt8) (n p s i : Nat) (hl : bs.length = n) (hi : i ≤ n) (hs : s ≤ i) (hp : p ≤ 3) (hno : ∀ j, s ≤ j → j < i → bg bs j ≠ 46) (hst : i < n → bg bs i = 46)
    (hb : b = R4 p (bs.drop s)) : (Pl.okF ((bs.drop s).take (i - s)) = false → false = b) ∧ (Pl.okF ((bs.drop s).take (i - s)) = true → St4 b bs n (p + 1) (i + 1) (i + 1)) := by
  rw [R4_step bs n p s i hl hi hs hp hno hst] at hb
  refine ⟨fun h => by rw [hb, h]; rfl, fun h => ?_⟩
  rw [h, Bool.true_and] at hb
  by_cases e : i = n
  · rw [if_pos e] at hb; exact .inr ⟨by omega, by omega, by omega, hb⟩
  · rw [if_neg e] at hb; exact .inl ⟨by omega, by omega, by omega, fun j h1 h2 => by omega, hb⟩

theorem okF_all (F : List UInt8) (m : Nat) (hl : F.length = m) : Pl.okF F = (decide (1 ≤ m) && decide (m ≤ 3) && !(decide (1 < m) && (bg F 0 == 48)) && F.all Pl.dg && decide (Pl.val F ≤ 255)) := by
  unfold Pl.okF
  rw [hl]
  by_cases h : 1 < m
  · have hh : F.head? = some (bg F 0) := by
      rw [List.head?_eq_getElem?, List.getElem?_eq_getElem (by omega), bg_eq F 0 (by omega)]
    rw [hh]; simp
  · simp [h]

theorem val_le (F : List UInt8) (k m : Nat) (hk : k ≤ 3) (hF : F.length = m) (hd : ∀ j, j < k → Pl.dg (bg F j) = true) (hkm : k ≤ m) : Pl.val (F.take k) < 1000 := by
  have h := val_lt (F.take k) (fun x hx => by
    obtain ⟨j, hj, e⟩ := bg_mem _ _ hx
    simp only [List.length_take] at hj
    rw [bg_take _ _ _ (by omega)] at e
    exact e ▸ hd j (by omega))
  rw [List.length_take, Nat.min_eq_left (by omega)] at h
  exact Nat.lt_of_lt_of_le h (Nat.pow_le_pow_right (n := 10) (by omega) hk)

set_option maxRecDepth 20000 in
set_option maxHeartbeats 4000000 in
theorem m31 (ao : Option Addr) (n cap : Nat) (bs : List UInt8) (w : World) (hV : Vw w ao n cap bs) (b : Bool) (hb : Hid (b = Pl.s4 3 bs)) :
    Calls Try.prog 31 #[.slice ao n cap] w fun e w' => e = .returned (.bool b) ∧ w' = w := by
  have hn : n ≤ 1048576 := Nat.le_trans hV.hc hV.max
  have hlen : Hid (bs.length = n) := hV.len
  go_enter Try.func31, Try.ntmps31
  go_wp2
  go_loop [3, 4, 5] (fun t u x => ∃ p s i : Nat, t = .int .i64 p ∧ u = .int .i64 s ∧ x = .int .i64 i ∧ p ≤ 4 ∧ i ≤ n + 1 ∧ Hid (St4 b bs n p s i)) (fun _ _ x => n + 1 - (intOf x).toNat)
  case atStart => exact ⟨0, 0, 0, rfl, rfl, rfl, by omega, by omega, .inl ⟨by omega, by omega, by omega, fun j h1 h2 => by omega, hb⟩⟩
  case round =>
    obtain ⟨p, s, i, rfl, rfl, rfl, hp, hi, hS⟩ := hrel
    clear hb
    by_cases hin : i ≤ n
    · obtain ⟨hs, HNo, HR⟩ : s ≤ i ∧ Hid (∀ j, s ≤ j → j < i → bg bs j ≠ 46) ∧ Hid (b = R4 p (bs.drop s)) := by
        rcases hS.out with ⟨_, h1, _, h2, h3⟩ | ⟨h, _⟩
        · exact ⟨h1, h2, h3⟩
        · omega
      clear hS
      by_cases hgo : i < n ∧ bg bs i ≠ 46
      · obtain ⟨h1, c⟩ := hgo
        have hix := hV.ix h1
        have hcl := hV.cell i h1
        have e1 : (((bg bs i).toNat : Int) != 46) = true := nne c
        have HC : Hid (bg bs i ≠ 46) := c
        clear c
        go_wp2
        go_round
        case rel =>
          refine ⟨p, s, i + 1, rfl, rfl, by go_num, by omega, by omega, .inl ⟨by omega, by omega, by omega, fun j h1 h2 => ?_, HR.out⟩⟩
          by_cases e : j = i
          · rw [e]; exact HC.out
          · exact HNo.out j h1 (by omega)
        case measure => simp [intOf] <;> omega
      · have hst : i < n → bg bs i = 46 := fun h => Classical.byContradiction fun c => hgo ⟨h, c⟩
        obtain ⟨aof, capf, hVf, hslf⟩ := hV.mid hs hin
        have HN : Hid (p ≤ 3 → (Pl.okF ((bs.drop s).take (i - s)) = false → false = b) ∧ (Pl.okF ((bs.drop s).take (i - s)) = true → St4 b bs n (p + 1) (i + 1) (i + 1))) :=
          fun hp3 => St4_next b bs n p s i hlen.out hin hs hp3 HNo.out hst HR.out
        have H4 : Hid (p = 4 → false = b) := fun e => by rw [HR.out, e]; rfl
        have hstop : (i < n ∧ bg bs i = 46) ∨ i = n := by
          by_cases h : i < n
          · exact .inl ⟨h, hst h⟩
          · exact .inr (by omega)
        clear hgo hst HR HNo
        generalize (bs.drop s).take (i - s) = F at hVf HN
        generalize i - s = m at hVf hslf
        have hok : Hid (Pl.okF F = (decide (1 ≤ m) && decide (m ≤ 3) && !(decide (1 < m) && (bg F 0 == 48)) && F.all Pl.dg && decide (Pl.val F ≤ 255))) := okF_all F m hVf.len
        rcases hstop with ⟨h1, c⟩ | h1
        · have hix := hV.ix h1
          have hcl := hV.cell i h1
          have e1 : (((bg bs i).toNat : Int) != 46) = false := neq c
          clear c
          by_cases hp4 : p = 4
          · have FF : Hid (false = b) := H4.out hp4
            have t1 : (4 : Int) < (p : Int) + 1 := by omega
            clear hp4
            go_wp2
            go_ret
            exact ⟨ret_bool FF.out, rfl⟩
          · have hp3 : p ≤ 3 := by omega
            have t1 : (p : Int) + 1 ≤ 4 := by omega
            have HZ : Hid (Pl.okF F = false → false = b) := (HN.out hp3).1
            have HY : Hid (Pl.okF F = true → St4 b bs n (p + 1) (i + 1) (i + 1)) := (HN.out hp3).2
            clear HN H4
            have hT : m < 1 ∨ 3 < m ∨ (1 < m ∧ m ≤ 3 ∧ bg F 0 = 48) ∨ (1 < m ∧ m ≤ 3 ∧ bg F 0 ≠ 48) ∨ (m = 1) := by
              by_cases c : bg F 0 = 48
              · simp [c]; omega
              · simp [c]; omega
            rcases hT with hT | hT | ⟨hT, hT2, c0⟩ | ⟨hT, hT2, c0⟩ | hT
            · have FF : Hid (false = b) := HZ.out (by rw [hok.out, decide_eq_false (show ¬ 1 ≤ m by omega)]; rfl)
              go_wp2
              go_ret
              exact ⟨ret_bool FF.out, rfl⟩
            · have FF : Hid (false = b) := HZ.out (by rw [hok.out, decide_eq_false (show ¬ m ≤ 3 by omega)]; simp)
              go_wp2
              go_ret
              exact ⟨ret_bool FF.out, rfl⟩
            · have FF : Hid (false = b) := HZ.out (by rw [hok.out]; simp [hT, c0])
              have hx0 := hVf.ix0 (by omega)
              have hc0 := hVf.cell 0 (by omega)
              have e0 : (((bg F 0).toNat : Int) == 48) = true := teq c0
              clear c0
              go_wp2
              go_ret
              exact ⟨ret_bool FF.out, rfl⟩
            · have hx0 := hVf.ix0 (by omega)
              have hc0 := hVf.cell 0 (by omega)
              have e0 : (((bg F 0).toNat : Int) == 48) = false := tne c0
              have hm3 : m ≤ 3 := hT2
              have HA : Hid (F.all Pl.dg = true → Pl.val F ≤ 255 → Pl.okF F = true) := fun h1 h2 => by
                rw [hok.out, h1]; simp [h2, hT2, c0]; omega
              clear c0
              go_wp2
              go_loop [7, 8] (fun t u => ∃ v j : Nat, t = .int .i64 v ∧ u = .int .i64 j ∧ j ≤ m ∧ Hid (∀ l, l < j → Pl.dg (bg F l) = true) ∧ Hid (v = Pl.val (F.take j))) (fun _ u => m - (intOf u).toNat)
              case atStart => exact ⟨0, 0, rfl, rfl, by omega, fun l hl => by omega, rfl⟩
              case round =>
                obtain ⟨v, j, rfl, rfl, hj, hdg, hval⟩ := hrel
                have hv : v < 1000 := by rw [hval.out]; exact val_le F j m (by omega) hVf.len hdg.out hj
                by_cases hjm : j < m
                · have hxj := hVf.ix hjm
                  have hcj := hVf.cell j hjm
                  by_cases hd : Pl.dg (bg F j) = true
                  · have HD : Hid (Pl.dg (bg F j) = true) := hd
                    simp only [Pl.dg, Bool.and_eq_true, decide_eq_true_eq] at hd
                    have h48 : (48 : Int) ≤ ((bg F j).toNat : Int) := by omega
                    have h57 : ((bg F j).toNat : Int) ≤ 57 := by omega
                    clear hd
                    go_wp2
                    go_round
                    case rel =>
                      refine ⟨v * 10 + ((bg F j).toNat - 48), j + 1, by go_num, by go_num, by omega, fun l hl => ?_, ?_⟩
                      · by_cases e : l = j
                        · rw [e]; exact HD.out
                        · exact hdg.out l (by omega)
                      · show _ = _
                        rw [take_bg F j (by rw [hVf.len]; exact hjm), Pl.val_snoc, ← hval.out]
                    case measure => simp [intOf] <;> omega
                  · have FF : Hid (false = b) := HZ.out (by
                      have : F.all Pl.dg = false := by
                        rw [Bool.eq_false_iff]
                        intro h
                        exact hd (List.all_eq_true.1 h _ (mem_bg F j (by rw [hVf.len]; exact hjm)))
                      rw [hok.out, this]; simp)
                    simp only [Pl.dg, Bool.and_eq_true, decide_eq_true_eq] at hd
                    have hd2 : ((bg F j).toNat : Int) < 48 ∨ ((48 : Int) ≤ ((bg F j).toNat : Int) ∧ (57 : Int) < ((bg F j).toNat : Int)) := by omega
                    clear hd
                    rcases hd2 with h48 | ⟨h48, h57⟩
                    · go_wp2
                      go_ret
                      exact ⟨ret_bool FF.out, rfl⟩
                    · go_wp2
                      go_ret
                      exact ⟨ret_bool FF.out, rfl⟩
                · have hall : Hid (F.all Pl.dg = true) := by
                    show _ = _
                    rw [List.all_eq_true]
                    intro x hx
                    obtain ⟨l, hl, e⟩ := bg_mem _ _ hx
                    rw [hVf.len] at hl
                    exact e ▸ hdg.out l (by omega)
                  have hvF : Hid (v = Pl.val F) := by
                    show v = _
                    rw [hval.out, List.take_of_length_le (by rw [hVf.len]; omega)]
                  by_cases h255 : v ≤ 255
                  · have HS : Hid (St4 b bs n (p + 1) (i + 1) (i + 1)) := HY.out (HA.out hall.out (by rw [← hvF.out]; exact h255))
                    go_wp2
                    go_round
                    case rel => exact ⟨p + 1, i + 1, i + 1, by go_num, by go_num, by go_num, by omega, by omega, HS⟩
                    case measure => simp [intOf] <;> omega
                  · have FF : Hid (false = b) := HZ.out (by rw [hok.out, ← hvF.out]; simp [h255])
                    go_wp2
                    go_ret
                    exact ⟨ret_bool FF.out, rfl⟩
            · have hm3 : m ≤ 3 := by omega
              have hm1 : (m : Int) ≤ 1 := by omega
              have hm0 : (1 : Int) ≤ m := by omega
              have HA : Hid (F.all Pl.dg = true → Pl.val F ≤ 255 → Pl.okF F = true) := fun h1 h2 => by
                rw [hok.out, h1]; simp [h2, hT]
              clear hT
              go_wp2
              go_loop [7, 8] (fun t u => ∃ v j : Nat, t = .int .i64 v ∧ u = .int .i64 j ∧ j ≤ m ∧ Hid (∀ l, l < j → Pl.dg (bg F l) = true) ∧ Hid (v = Pl.val (F.take j))) (fun _ u => m - (intOf u).toNat)
              case atStart => exact ⟨0, 0, rfl, rfl, by omega, fun l hl => by omega, rfl⟩
              case round =>
                obtain ⟨v, j, rfl, rfl, hj, hdg, hval⟩ := hrel
                have hv : v < 1000 := by rw [hval.out]; exact val_le F j m (by omega) hVf.len hdg.out hj
                by_cases hjm : j < m
                · have hxj := hVf.ix hjm
                  have hcj := hVf.cell j hjm
                  by_cases hd : Pl.dg (bg F j) = true
                  · have HD : Hid (Pl.dg (bg F j) = true) := hd
                    simp only [Pl.dg, Bool.and_eq_true, decide_eq_true_eq] at hd
                    have h48 : (48 : Int) ≤ ((bg F j).toNat : Int) := by omega
                    have h57 : ((bg F j).toNat : Int) ≤ 57 := by omega
                    clear hd
                    go_wp2
                    go_round
                    case rel =>
                      refine ⟨v * 10 + ((bg F j).toNat - 48), j + 1, by go_num, by go_num, by omega, fun l hl => ?_, ?_⟩
                      · by_cases e : l = j
                        · rw [e]; exact HD.out
                        · exact hdg.out l (by omega)
                      · show _ = _
                        rw [take_bg F j (by rw [hVf.len]; exact hjm), Pl.val_snoc, ← hval.out]
                    case measure => simp [intOf] <;> omega
                  · have FF : Hid (false = b) := HZ.out (by
                      have : F.all Pl.dg = false := by
                        rw [Bool.eq_false_iff]
                        intro h
                        exact hd (List.all_eq_true.1 h _ (mem_bg F j (by rw [hVf.len]; exact hjm)))
                      rw [hok.out, this]; simp)
                    simp only [Pl.dg, Bool.and_eq_true, decide_eq_true_eq] at hd
                    have hd2 : ((bg F j).toNat : Int) < 48 ∨ ((48 : Int) ≤ ((bg F j).toNat : Int) ∧ (57 : Int) < ((bg F j).toNat : Int)) := by omega
                    clear hd
                    rcases hd2 with h48 | ⟨h48, h57⟩
                    · go_wp2
                      go_ret
                      exact ⟨ret_bool FF.out, rfl⟩
                    · go_wp2
                      go_ret
                      exact ⟨ret_bool FF.out, rfl⟩
                · have hall : Hid (F.all Pl.dg = true) := by
                    show _ = _
                    rw [List.all_eq_true]
                    intro x hx
                    obtain ⟨l, hl, e⟩ := bg_mem _ _ hx
                    rw [hVf.len] at hl
                    exact e ▸ hdg.out l (by omega)
                  have hvF : Hid (v = Pl.val F) := by
                    show v = _
                    rw [hval.out, List.take_of_length_le (by rw [hVf.len]; omega)]
                  by_cases h255 : v ≤ 255
                  · have HS : Hid (St4 b bs n (p + 1) (i + 1) (i + 1)) := HY.out (HA.out hall.out (by rw [← hvF.out]; exact h255))
                    go_wp2
                    go_round
                    case rel => exact ⟨p + 1, i + 1, i + 1, by go_num, by go_num, by go_num, by omega, by omega, HS⟩
                    case measure => simp [intOf] <;> omega
                  · have FF : Hid (false = b) := HZ.out (by rw [hok.out, ← hvF.out]; simp [h255])
                    go_wp2
                    go_ret
                    exact ⟨ret_bool FF.out, rfl⟩
        · have hge : ¬ i < n := by omega
          clear h1
          by_cases hp4 : p = 4
          · have FF : Hid (false = b) := H4.out hp4
            have t1 : (4 : Int) < (p : Int) + 1 := by omega
            clear hp4
            go_wp2
            go_ret
            exact ⟨ret_bool FF.out, rfl⟩
          · have hp3 : p ≤ 3 := by omega
            have t1 : (p : Int) + 1 ≤ 4 := by omega
            have HZ : Hid (Pl.okF F = false → false = b) := (HN.out hp3).1
            have HY : Hid (Pl.okF F = true → St4 b bs n (p + 1) (i + 1) (i + 1)) := (HN.out hp3).2
            clear HN H4
            have hT : m < 1 ∨ 3 < m ∨ (1 < m ∧ m ≤ 3 ∧ bg F 0 = 48) ∨ (1 < m ∧ m ≤ 3 ∧ bg F 0 ≠ 48) ∨ (m = 1) := by
              by_cases c : bg F 0 = 48
              · simp [c]; omega
              · simp [c]; omega
            rcases hT with hT | hT | ⟨hT, hT2, c0⟩ | ⟨hT, hT2, c0⟩ | hT
            · have FF : Hid (false = b) := HZ.out (by rw [hok.out, decide_eq_false (show ¬ 1 ≤ m by omega)]; rfl)
              go_wp2
              go_ret
              exact ⟨ret_bool FF.out, rfl⟩
            · have FF : Hid (false = b) := HZ.out (by rw [hok.out, decide_eq_false (show ¬ m ≤ 3 by omega)]; simp)
              go_wp2
              go_ret
              exact ⟨ret_bool FF.out, rfl⟩
            · have FF : Hid (false = b) := HZ.out (by rw [hok.out]; simp [hT, c0])
              have hx0 := hVf.ix0 (by omega)
              have hc0 := hVf.cell 0 (by omega)
              have e0 : (((bg F 0).toNat : Int) == 48) = true := teq c0
              clear c0
              go_wp2
              go_ret
              exact ⟨ret_bool FF.out, rfl⟩
            · have hx0 := hVf.ix0 (by omega)
              have hc0 := hVf.cell 0 (by omega)
              have e0 : (((bg F 0).toNat : Int) == 48) = false := tne c0
              have hm3 : m ≤ 3 := hT2
              have HA : Hid (F.all Pl.dg = true → Pl.val F ≤ 255 → Pl.okF F = true) := fun h1 h2 => by
                rw [hok.out, h1]; simp [h2, hT2, c0]; omega
              clear c0
              go_wp2
              go_loop [7, 8] (fun t u => ∃ v j : Nat, t = .int .i64 v ∧ u = .int .i64 j ∧ j ≤ m ∧ Hid (∀ l, l < j → Pl.dg (bg F l) = true) ∧ Hid (v = Pl.val (F.take j))) (fun _ u => m - (intOf u).toNat)
              case atStart => exact ⟨0, 0, rfl, rfl, by omega, fun l hl => by omega, rfl⟩
              case round =>
                obtain ⟨v, j, rfl, rfl, hj, hdg, hval⟩ := hrel
                have hv : v < 1000 := by rw [hval.out]; exact val_le F j m (by omega) hVf.len hdg.out hj
                by_cases hjm : j < m
                · have hxj := hVf.ix hjm
                  have hcj := hVf.cell j hjm
                  by_cases hd : Pl.dg (bg F j) = true
                  · have HD : Hid (Pl.dg (bg F j) = true) := hd
                    simp only [Pl.dg, Bool.and_eq_true, decide_eq_true_eq] at hd
                    have h48 : (48 : Int) ≤ ((bg F j).toNat : Int) := by omega
                    have h57 : ((bg F j).toNat : Int) ≤ 57 := by omega
                    clear hd
                    go_wp2
                    go_round
                    case rel =>
                      refine ⟨v * 10 + ((bg F j).toNat - 48), j + 1, by go_num, by go_num, by omega, fun l hl => ?_, ?_⟩
                      · by_cases e : l = j
                        · rw [e]; exact HD.out
                        · exact hdg.out l (by omega)
                      · show _ = _
                        rw [take_bg F j (by rw [hVf.len]; exact hjm), Pl.val_snoc, ← hval.out]
                    case measure => simp [intOf] <;> omega
                  · have FF : Hid (false = b) := HZ.out (by
                      have : F.all Pl.dg = false := by
                        rw [Bool.eq_false_iff]
                        intro h
                        exact hd (List.all_eq_true.1 h _ (mem_bg F j (by rw [hVf.len]; exact hjm)))
                      rw [hok.out, this]; simp)
                    simp only [Pl.dg, Bool.and_eq_true, decide_eq_true_eq] at hd
                    have hd2 : ((bg F j).toNat : Int) < 48 ∨ ((48 : Int) ≤ ((bg F j).toNat : Int) ∧ (57 : Int) < ((bg F j).toNat : Int)) := by omega
                    clear hd
                    rcases hd2 with h48 | ⟨h48, h57⟩
                    · go_wp2
                      go_ret
                      exact ⟨ret_bool FF.out, rfl⟩
                    · go_wp2
                      go_ret
                      exact ⟨ret_bool FF.out, rfl⟩
                · have hall : Hid (F.all Pl.dg = true) := by
                    show _ = _
                    rw [List.all_eq_true]
                    intro x hx
                    obtain ⟨l, hl, e⟩ := bg_mem _ _ hx
                    rw [hVf.len] at hl
                    exact e ▸ hdg.out l (by omega)
                  have hvF : Hid (v = Pl.val F) := by
                    show v = _
                    rw [hval.out, List.take_of_length_le (by rw [hVf.len]; omega)]
                  by_cases h255 : v ≤ 255
                  · have HS : Hid (St4 b bs n (p + 1) (i + 1) (i + 1)) := HY.out (HA.out hall.out (by rw [← hvF.out]; exact h255))
                    go_wp2
                    go_round
                    case rel => exact ⟨p + 1, i + 1, i + 1, by go_num, by go_num, by go_num, by omega, by omega, HS⟩
                    case measure => simp [intOf] <;> omega
                  · have FF : Hid (false = b) := HZ.out (by rw [hok.out, ← hvF.out]; simp [h255])
                    go_wp2
                    go_ret
                    exact ⟨ret_bool FF.out, rfl⟩
            · have hm3 : m ≤ 3 := by omega
              have hm1 : (m : Int) ≤ 1 := by omega
              have hm0 : (1 : Int) ≤ m := by omega
              have HA : Hid (F.all Pl.dg = true → Pl.val F ≤ 255 → Pl.okF F = true) := fun h1 h2 => by
                rw [hok.out, h1]; simp [h2, hT]
              clear hT
              go_wp2
              go_loop [7, 8] (fun t u => ∃ v j : Nat, t = .int .i64 v ∧ u = .int .i64 j ∧ j ≤ m ∧ Hid (∀ l, l < j → Pl.dg (bg F l) = true) ∧ Hid (v = Pl.val (F.take j))) (fun _ u => m - (intOf u).toNat)
              case atStart => exact ⟨0, 0, rfl, rfl, by omega, fun l hl => by omega, rfl⟩
              case round =>
                obtain ⟨v, j, rfl, rfl, hj, hdg, hval⟩ := hrel
                have hv : v < 1000 := by rw [hval.out]; exact val_le F j m (by omega) hVf.len hdg.out hj
                by_cases hjm : j < m
                · have hxj := hVf.ix hjm
                  have hcj := hVf.cell j hjm
                  by_cases hd : Pl.dg (bg F j) = true
                  · have HD : Hid (Pl.dg (bg F j) = true) := hd
                    simp only [Pl.dg, Bool.and_eq_true, decide_eq_true_eq] at hd
                    have h48 : (48 : Int) ≤ ((bg F j).toNat : Int) := by omega
                    have h57 : ((bg F j).toNat : Int) ≤ 57 := by omega
                    clear hd
                    go_wp2
                    go_round
                    case rel =>
                      refine ⟨v * 10 + ((bg F j).toNat - 48), j + 1, by go_num, by go_num, by omega, fun l hl => ?_, ?_⟩
                      · by_cases e : l = j
                        · rw [e]; exact HD.out
                        · exact hdg.out l (by omega)
                      · show _ = _
                        rw [take_bg F j (by rw [hVf.len]; exact hjm), Pl.val_snoc, ← hval.out]
                    case measure => simp [intOf] <;> omega
                  · have FF : Hid (false = b) := HZ.out (by
                      have : F.all Pl.dg = false := by
                        rw [Bool.eq_false_iff]
                        intro h
                        exact hd (List.all_eq_true.1 h _ (mem_bg F j (by rw [hVf.len]; exact hjm)))
                      rw [hok.out, this]; simp)
                    simp only [Pl.dg, Bool.and_eq_true, decide_eq_true_eq] at hd
                    have hd2 : ((bg F j).toNat : Int) < 48 ∨ ((48 : Int) ≤ ((bg F j).toNat : Int) ∧ (57 : Int) < ((bg F j).toNat : Int)) := by omega
                    clear hd
                    rcases hd2 with h48 | ⟨h48, h57⟩
                    · go_wp2
                      go_ret
                      exact ⟨ret_bool FF.out, rfl⟩
                    · go_wp2
                      go_ret
                      exact ⟨ret_bool FF.out, rfl⟩
                · have hall : Hid (F.all Pl.dg = true) := by
                    show _ = _
                    rw [List.all_eq_true]
                    intro x hx
                    obtain ⟨l, hl, e⟩ := bg_mem _ _ hx
                    rw [hVf.len] at hl
                    exact e ▸ hdg.out l (by omega)
                  have hvF : Hid (v = Pl.val F) := by
                    show v = _
                    rw [hval.out, List.take_of_length_le (by rw [hVf.len]; omega)]
                  by_cases h255 : v ≤ 255
                  · have HS : Hid (St4 b bs n (p + 1) (i + 1) (i + 1)) := HY.out (HA.out hall.out (by rw [← hvF.out]; exact h255))
                    go_wp2
                    go_round
                    case rel => exact ⟨p + 1, i + 1, i + 1, by go_num, by go_num, by go_num, by omega, by omega, HS⟩
                    case measure => simp [intOf] <;> omega
                  · have FF : Hid (false = b) := HZ.out (by rw [hok.out, ← hvF.out]; simp [h255])
                    go_wp2
                    go_ret
                    exact ⟨ret_bool FF.out, rfl⟩
    · obtain ⟨rfl, HR⟩ : i = n + 1 ∧ Hid (b = decide (p = 4)) := by
        rcases hS.out with ⟨h, _⟩ | ⟨h1, _, _, h2⟩
        · omega
        · exact ⟨h1, h2⟩
      have F : Hid (((p : Int) == 4) = b) := by
        show _ = b
        rw [HR.out, Bool.eq_iff_iff]; simp; omega
      go_wp2
      go_ret
      exact ⟨ret_bool F.out, rfl⟩
end Go.Proofs.Qxb6605312a
