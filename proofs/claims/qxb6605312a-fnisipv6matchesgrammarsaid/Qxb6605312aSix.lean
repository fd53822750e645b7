import Derived.Test.Qxb6605312aLib
import Derived.Deep.CutRange
namespace Go.Proofs.Qxb6605312a
open Go.RowKit

theorem idx26_r (ao : Option Addr) (n cap : Nat) (bs : List UInt8) (w : World) (hV : Vw w ao n cap bs) (z : Int) (hz : Hid (z = Lib.indexByte bs 37)) :
    Calls Try.prog 26 #[.slice ao n cap, .int .u8 37] w fun e w' => e = .returned (.int .i64 z) ∧ w' = w := by
  rw [hz.out]; exact idx26 ao n cap bs w hV

def ln : Value → Nat | .slice _ n _ => n | _ => 0

theorem hx_cut (L : List UInt8) (k n : Nat) (hl : L.length = n) (hk : k ≤ n) (h1 : ∀ j, j < k → Pl.hx (bg L j) = true) (h2 : k < n → Pl.hx (bg L k) = false) :
    (L.takeWhile Pl.hx).length = k ∧ L.dropWhile Pl.hx = L.drop k := by
  obtain ⟨e1, e2⟩ := tw_take Pl.hx L k (by omega) h1 (fun h => h2 (by omega))
  exact ⟨by rw [e1, List.length_take]; omega, e2⟩
theorem head_drop (L : List UInt8) (k n : Nat) (hl : L.length = n) : (L.drop k).head? = some 46 ↔ k < n ∧ bg L k = 46 := by
  by_cases h : k < n
  · rw [drop_bg L k (by omega)]; simp [h]
  · rw [List.drop_eq_nil_of_le (by omega)]; simp [h]

set_option maxRecDepth 20000 in
set_option maxHeartbeats 4000000 in
theorem p22 (ao : Option Addr) (n cap : Nat) (bs : List UInt8) (w : World) (hV : Vw w ao n cap bs) (b : Bool) (hb : Hid (b = an Pl.par6 bs)) :
    Calls Try.prog 22 #[.slice ao n cap] w fun e w' => e = .returned (.bool b) ∧ Below w.heap.size w w' := by
  have kc := fun (w : World) (C : Array Value) (n c : Nat) => Lib.run_convert_bytes_const (P := Try.prog) w 22 5 C n c Try.underlying22 Try.underlying5
  have hn : n ≤ 1048576 := Nat.le_trans hV.hc hV.max
  have hlen : Hid (bs.length = n) := hV.len
  have hix := idx_facts bs
  obtain ⟨z, HZ⟩ : ∃ z, Hid (z = Lib.indexByte bs 37) := ⟨_, rfl⟩
  rw [← HZ.out] at hix
  have hix' : (z = -1 ∧ Hid (zn bs = some bs)) ∨ ∃ k : Nat, z = k ∧ k < n ∧ Hid (zn bs = if k + 1 = n then none else some (bs.take k)) := by
    rw [hlen.out] at hix; exact hix
  clear hix
  go_enter Try.func22, Try.ntmps22
  go_upto_if 10 with (go_at_call 26; refine (idx26_r ao n cap bs _ hV z HZ).mono ?_; rintro e w ⟨rfl, rfl⟩)
  clear HZ
  go_cut [0, 3] from 7 (fun s _ wx => wx = w ∧ ∃ (aoA : Option Addr) (nA capA : Nat) (A : List UInt8), s = .slice aoA nA capA ∧ Vw w aoA nA capA A ∧ Hid (b = Pl.par6 A))
  case first =>
    rcases hix' with ⟨rfl, HN⟩ | ⟨k, rfl, hk, HN⟩
    · go_wp2
      go_meet
      case rel => exact ⟨rfl, ao, n, cap, bs, rfl, hV, by show b = _; rw [hb.out, an, HN.out]⟩
    · by_cases hl : k + 1 = n
      · have F : Hid (false = b) := by show false = b; rw [hb.out, an, HN.out, if_pos hl]
        have e2 : ((k : Int) == (n : Int) - 1) = true := by rw [beq_iff_eq]; omega
        clear hl
        go_wp2
        go_ret
        exact ⟨ret_bool F.out, Below.refl _ _⟩
      · have F : Hid (b = Pl.par6 (bs.take k)) := by show b = _; rw [hb.out, an, HN.out, if_neg hl]
        have e2 : ((k : Int) == (n : Int) - 1) = false := by rw [beq_eq_false_iff_ne]; omega
        clear hl
        obtain ⟨aoA, capA, hVA, hslA⟩ := hV.upto (hi := k) (by omega)
        go_wp2
        go_meet
        case rel => exact ⟨rfl, aoA, k, capA, _, rfl, hVA, F⟩
  case rest =>
    clear hV hb hix' hlen hn
    obtain ⟨hw, ao, n, cap, A, rfl, hV, hb⟩ := hcut
    have hw' := hw.symm
    subst hw'
    have hn : n ≤ 1048576 := Nat.le_trans hV.hc hV.max
    have hlen : Hid (A.length = n) := hV.len
    obtain ⟨r, HR⟩ : ∃ r, Hid (r = Lib.hasPrefix A [58, 58]) := ⟨_, rfl⟩
    go_upto_if 22 with (go_at_call 27; refine (pre27 ao n cap A _ hV r HR).mono ?_; rintro e w' ⟨rfl, rfl⟩)
    go_cut [0, 5] from 7 (fun s e wx => Below w.heap.size w wx ∧ ∃ (aoA : Option Addr) (nA capA : Nat) (L : List UInt8) (el : Bool), s = .slice aoA nA capA ∧ e = .bool el ∧ Vw wx aoA nA capA L ∧ Hid (b = Pl.S (L.length + 1) L 0 el))
    case first =>
      rcases pre_par A with ⟨h1, h2, h3⟩ | ⟨h1, h3⟩
      · obtain rfl : r = true := by rw [HR.out, h1]
        have F : Hid (b = Pl.S ((A.drop 2).length + 1) (A.drop 2) 0 true) := by show b = _; rw [hb.out, h3]
        rw [hlen.out] at h2
        clear h1 h3
        obtain ⟨ao2, cap2, hV2, hsl2⟩ := hV.off2 h2
        go_wp2
        go_meet
        case rel => exact ⟨wc_below w, ao2, _, cap2, _, true, rfl, rfl, hV2.old (wc_below w), F⟩
      · obtain rfl : r = false := by rw [HR.out, h1]
        have F : Hid (b = Pl.S (A.length + 1) A 0 false) := by show b = _; rw [hb.out, h3]
        clear h1 h3
        go_wp2
        go_meet
        case rel => exact ⟨wc_below w, ao, _, cap, _, false, rfl, rfl, hV.old (wc_below w), F⟩
    case rest =>
      clear hV hb HR hlen hn
      obtain ⟨HB, ao, n, cap, L, el, rfl, rfl, hV, hb⟩ := hcut
      have hn : n ≤ 1048576 := Nat.le_trans hV.hc hV.max
      go_wp2
      go_loop [0, 4, 5] (fun s t e => ∃ (ao : Option Addr) (n cap : Nat) (L : List UInt8) (g : Nat) (el : Bool) (fu : Nat), s = .slice ao n cap ∧ t = .int .i64 g ∧ e = .bool el ∧ Vw wc ao n cap L ∧ g + n ≤ 1048576 ∧ Hid (L.length < fu) ∧ Hid (b = Pl.S fu L g el)) (fun s _ _ => ln s)
      case atStart => exact ⟨ao, n, cap, L, 0, el, L.length + 1, rfl, rfl, rfl, hV, by omega, Nat.lt_succ_self _, hb⟩
      case round =>
        clear hV hb hn
        obtain ⟨ao, n, cap, L, g, el, fu, rfl, rfl, rfl, hV, hgn, hfu, hb⟩ := hrel
        have hlen : Hid (L.length = n) := hV.len
        by_cases hz : n = 0
        · have F : Hid (b = Pl.fin g el) := by
            show b = _
            have hL : L = [] := List.eq_nil_of_length_eq_zero (by rw [hlen.out]; exact hz)
            rw [hb.out, hL, Pl.S_nil]
          have hz' : (n : Int) ≤ 0 := by omega
          clear hz
          cases el
          all_goals
            go_wp2
            all_goals
              go_ret
              refine ⟨ret_bool ?_, HB⟩
              rw [F.out]
              simp [Pl.fin]
              try omega
        · have hz' : (0 : Int) < (n : Int) := by omega
          have hlt : 0 < n := by omega
          obtain ⟨f, rfl⟩ : ∃ f, fu = f + 1 := ⟨fu - 1, by have := hfu.out; omega⟩
          go_upto_if 29 with fail
          go_cut [0, 5] from 25 to 90 (fun s e wx => wx = wc ∧ ∃ (aoG : Option Addr) (nG capG : Nat) (LG : List UInt8) (eG : Bool), s = .slice aoG nG capG ∧ e = .bool eG ∧ Vw wc aoG nG capG LG ∧ nG ≤ n ∧ Hid (b = Pl.T (f + 1) LG g eG))
          case first =>
            obtain ⟨x, L1, hL⟩ : ∃ x L1, L = x :: L1 := by
              cases L with
              | nil => have := hlen.out; simp at this; omega
              | cons x L1 => exact ⟨x, L1, rfl⟩
            by_cases hg : g = 0
            · have F : Hid (b = Pl.T (f + 1) L g el) := by show b = _; rw [hb.out, hg, hL, Pl.S_zero]
              have hg' : (g : Int) ≤ 0 := by omega
              clear hg hb hL
              go_wp2
              go_meet
              case rel => exact ⟨rfl, ao, n, cap, L, el, rfl, rfl, hV, Nat.le_refl _, F⟩
            · have hg' : (0 : Int) < (g : Int) := by omega
              have hx0 := hV.ix0 hlt
              have hc0 := hV.cell 0 hlt
              have hb1 : Hid (b = if bg L 0 = 58 then Pl.Sc (f + 1) (L.drop 1) g el else false) := by
                show b = _
                rw [hb.out, hL, Pl.S_pos _ _ _ _ _ hg]; rfl
              clear hb hL
              by_cases c0 : bg L 0 = 58
              · have e0 : (((bg L 0).toNat : Int) != 58) = false := neq c0
                have hb2 : Hid (b = Pl.Sc (f + 1) (L.drop 1) g el) := by show b = _; rw [hb1.out, if_pos c0]
                clear c0 hb1
                obtain ⟨ao1, cap1, hV1, hsl1⟩ := hV.off1 hlt
                have hl1 : Hid ((L.drop 1).length = n - 1) := hV1.len
                generalize L.drop 1 = M at hV1 hb2 hl1
                generalize hm : n - 1 = m at hV1 hsl1 hl1
                by_cases c1 : 0 < m ∧ bg M 0 = 58
                · obtain ⟨hm0, c1⟩ := c1
                  have hx1 := hV1.ix0 hm0
                  have hc1 := hV1.cell 0 hm0
                  have e1 : (((bg M 0).toNat : Int) == 58) = true := teq c1
                  have hb3 : Hid (b = if el then false else if M.drop 1 = [] then Pl.fin g true else Pl.T (f + 1) (M.drop 1) g true) := by
                    show b = _
                    rw [hb2.out, ← Pl.Sc_two, ← c1]
                    have := drop_bg M 0 (by rw [hl1.out]; exact hm0)
                    rw [List.drop_zero] at this
                    rw [← this]
                  clear c1 hb2
                  cases el with
                  | true =>
                    have F : Hid (false = b) := by show false = b; rw [hb3.out]; rfl
                    go_wp2
                    go_ret
                    exact ⟨ret_bool F.out, HB⟩
                  | false =>
                    obtain ⟨ao2, cap2, hV2, hsl2⟩ := hV1.off1 hm0
                    have hl2 : Hid ((M.drop 1).length = m - 1) := hV2.len
                    generalize M.drop 1 = N at hV2 hb3 hl2
                    generalize hq : m - 1 = q at hV2 hsl2 hl2
                    by_cases hq0 : q = 0
                    · have F : Hid (b = Pl.fin g true) := by
                        show b = _
                        rw [hb3.out, if_neg (by simp), if_pos (List.eq_nil_of_length_eq_zero (by rw [hl2.out]; exact hq0))]
                      have eq0 : ((q : Int) == 0) = true := by rw [hq0]; rfl
                      clear hq0
                      go_wp2
                      all_goals
                        go_ret
                        refine ⟨ret_bool ?_, HB⟩
                        rw [F.out]
                        simp [Pl.fin]
                        try omega
                    · have F : Hid (b = Pl.T (f + 1) N g true) := by
                        show b = _
                        rw [hb3.out, if_neg (by simp), if_neg (fun h => hq0 (by rw [← hl2.out, h]; rfl))]
                      have eq0 : ((q : Int) == 0) = false := by rw [beq_eq_false_iff_ne]; omega
                      clear hq0
                      go_wp2
                      go_meet
                      case rel => exact ⟨rfl, ao2, q, cap2, N, true, rfl, rfl, hV2, by omega, F⟩
                · have F : Hid (b = Pl.T (f + 1) M g el) := by
                    show b = _
                    rw [hb2.out, Pl.Sc_one]
                    intro h
                    cases hM : M with
                    | nil => rw [hM] at h; simp at h
                    | cons y M1 =>
                      rw [hM] at h
                      simp at h
                      exact c1 ⟨by rw [← hl1.out, hM]; simp, by rw [hM, bg_cons, h]⟩
                  by_cases hm0 : 0 < m
                  · have hx1 := hV1.ix0 hm0
                    have hc1 := hV1.cell 0 hm0
                    have e1 : (((bg M 0).toNat : Int) == 58) = false := tne fun h => c1 ⟨hm0, h⟩
                    clear c1
                    go_wp2
                    go_meet
                    case rel => exact ⟨rfl, ao1, m, cap1, M, el, rfl, rfl, hV1, by omega, F⟩
                  · have hm0' : (m : Int) ≤ 0 := by omega
                    clear c1
                    go_wp2
                    go_meet
                    case rel => exact ⟨rfl, ao1, m, cap1, M, el, rfl, rfl, hV1, by omega, F⟩
              · have e0 : (((bg L 0).toNat : Int) != 58) = true := nne c0
                have F : Hid (false = b) := by show false = b; rw [hb1.out, if_neg c0]
                clear c0
                go_wp2
                go_ret
                exact ⟨ret_bool F.out, HB⟩
          case rest =>
            clear hb
            obtain ⟨hw, aoG, nG, capG, LG, eG, rfl, rfl, hVG, hnG, hT⟩ := hcut
            have hw' := hw.symm
            subst hw'
            have hlG : Hid (LG.length = nG) := hVG.len
            go_wp2
            go_loop [6] (fun t => ∃ k : Nat, t = .int .i64 k ∧ k ≤ nG ∧ Hid (∀ j, j < k → Pl.hx (bg LG j) = true)) (fun t => nG - (intOf t).toNat)
            case atStart => exact ⟨0, rfl, by omega, fun j hj => by omega⟩
            case round =>
              obtain ⟨k, rfl, hk, hdg⟩ := hrel
              by_cases hkn : k < nG
              · have hxk := hVG.ix hkn
                have hck := hVG.cell k hkn
                by_cases hd : Pl.hx (bg LG k) = true
                · have HD : Hid (true = Pl.hx (bg LG k)) := hd.symm
                  clear hd
                  go_wp2_with (go_at_call 28; refine (hex28 (bg LG k) true HD _).mono ?_; rintro e w' ⟨rfl, rfl⟩)
                  go_round
                  case rel =>
                    refine ⟨k + 1, by go_num, by omega, fun l hl => ?_⟩
                    by_cases e : l = k
                    · rw [e]; exact HD.out.symm
                    · exact hdg.out l (by omega)
                  case measure => simp [intOf] <;> omega
                · have hd' : Pl.hx (bg LG k) = false := by rw [Bool.eq_false_iff]; exact hd
                  have HD : Hid (false = Pl.hx (bg LG k)) := hd'.symm
                  obtain ⟨hc1, hc2⟩ := hx_cut LG k nG hlG.out hk hdg.out (fun _ => hd')
                  have HC1 : Hid ((LG.takeWhile Pl.hx).length = k) := hc1
                  have HC2 : Hid (LG.dropWhile Pl.hx = LG.drop k) := hc2
                  clear hd hd' hc1 hc2
                  by_cases c46 : bg LG k = 46
                  · have e46 : (((bg LG k).toNat : Int) == 46) = true := teq c46
                    have hT2 : Hid (b = if Pl.p4 3 LG then Pl.fin (g + 2) eG else false) := by
                      show b = _
                      rw [hT.out, Pl.T_dot _ _ _ _ (by rw [HC2.out, head_drop LG k nG hlG.out]; exact ⟨hkn, c46⟩), Pl.v4, Pl.p4_s4]
                    clear c46 hT
                    obtain ⟨r4, H4⟩ : ∃ r4, Hid (r4 = Pl.p4 3 LG) := ⟨_, rfl⟩
                    rw [← H4.out] at hT2
                    cases r4 with
                    | false =>
                      have F : Hid (false = b) := by show false = b; rw [hT2.out]; rfl
                      go_wp2_with (first | (go_at_call 28; refine (hex28 (bg LG k) false HD _).mono ?_; rintro e w' ⟨rfl, rfl⟩) | (go_at_call 29; refine (a29 aoG nG capG LG _ hVG false H4).mono ?_; rintro e w' ⟨rfl, rfl⟩))
                      go_ret
                      exact ⟨ret_bool F.out, HB⟩
                    | true =>
                      have F : Hid (b = Pl.fin (g + 2) eG) := by show b = _; rw [hT2.out]; rfl
                      cases eG
                      all_goals
                        go_wp2_with (first | (go_at_call 28; refine (hex28 (bg LG k) false HD _).mono ?_; rintro e w' ⟨rfl, rfl⟩) | (go_at_call 29; refine (a29 aoG nG capG LG _ hVG true H4).mono ?_; rintro e w' ⟨rfl, rfl⟩))
                        all_goals
                          go_ret
                          refine ⟨ret_bool ?_, HB⟩
                          rw [F.out]
                          simp [Pl.fin]
                          try omega
                  · have e46 : (((bg LG k).toNat : Int) == 46) = false := tne c46
                    have hne : (LG.dropWhile Pl.hx).head? ≠ some 46 := by
                      rw [HC2.out, Ne, head_drop LG k nG hlG.out]; exact fun h => c46 h.2
                    have HBAD : Hid (k = 0 ∨ 4 < k → false = b) := fun h => by
                      rw [hT.out, Pl.T_bad _ _ _ _ hne (by rw [HC1.out]; exact h)]
                    have HOK : Hid (k ≠ 0 → k ≤ 4 → b = Pl.S f (LG.drop k) (g + 1) eG) := fun h1 h2 => by
                      rw [hT.out, Pl.T_S _ _ _ _ hne (by rw [HC1.out]; exact h1) (by rw [HC1.out]; exact h2), HC2.out]
                    clear c46 hne hT
                    by_cases hk0 : k = 0
                    · have F : Hid (false = b) := HBAD.out (.inl hk0)
                      have t0 : ((k : Int) == 0) = true := by rw [hk0]; rfl
                      clear hk0
                      go_wp2_with (go_at_call 28; refine (hex28 (bg LG k) false HD _).mono ?_; rintro e w' ⟨rfl, rfl⟩)
                      go_ret
                      exact ⟨ret_bool F.out, HB⟩
                    · have t0 : ((k : Int) == 0) = false := by rw [beq_eq_false_iff_ne]; omega
                      by_cases hk4 : 4 < k
                      · have F : Hid (false = b) := HBAD.out (.inr hk4)
                        go_wp2_with (go_at_call 28; refine (hex28 (bg LG k) false HD _).mono ?_; rintro e w' ⟨rfl, rfl⟩)
                        go_ret
                        exact ⟨ret_bool F.out, HB⟩
                      · have F : Hid (b = Pl.S f (LG.drop k) (g + 1) eG) := HOK.out hk0 (by omega)
                        have t4 : (k : Int) ≤ 4 := by omega
                        obtain ⟨ao2, cap2, hV2, hsl2⟩ := hVG.off (lo := k) hk
                        go_wp2_with (go_at_call 28; refine (hex28 (bg LG k) false HD _).mono ?_; rintro e w' ⟨rfl, rfl⟩)
                        go_round
                        case rel => exact ⟨ao2, nG - k, cap2, _, g + 1, eG, f, rfl, by go_num, rfl, hV2, by omega, by show _ < f; rw [List.length_drop, hlG.out]; have := hfu.out; have := hlen.out; omega, F⟩
                        case measure => simp [ln] <;> omega
              · obtain ⟨hc1, hc2⟩ := hx_cut LG k nG hlG.out hk hdg.out (fun h => absurd h hkn)
                have hne : (LG.dropWhile Pl.hx).head? ≠ some 46 := by
                  rw [hc2, Ne, head_drop LG k nG hlG.out]; exact fun h => hkn h.1
                have HBAD : Hid (k = 0 ∨ 4 < k → false = b) := fun h => by
                  rw [hT.out, Pl.T_bad _ _ _ _ hne (by rw [hc1]; exact h)]
                have HOK : Hid (k ≠ 0 → k ≤ 4 → b = Pl.S f (LG.drop k) (g + 1) eG) := fun h1 h2 => by
                  rw [hT.out, Pl.T_S _ _ _ _ hne (by rw [hc1]; exact h1) (by rw [hc1]; exact h2), hc2]
                clear hc1 hc2 hne hT
                by_cases hk0 : k = 0
                · have F : Hid (false = b) := HBAD.out (.inl hk0)
                  have t0 : ((k : Int) == 0) = true := by rw [hk0]; rfl
                  clear hk0
                  go_wp2
                  go_ret
                  exact ⟨ret_bool F.out, HB⟩
                · have t0 : ((k : Int) == 0) = false := by rw [beq_eq_false_iff_ne]; omega
                  by_cases hk4 : 4 < k
                  · have F : Hid (false = b) := HBAD.out (.inr hk4)
                    go_wp2
                    go_ret
                    exact ⟨ret_bool F.out, HB⟩
                  · have F : Hid (b = Pl.S f (LG.drop k) (g + 1) eG) := HOK.out hk0 (by omega)
                    have t4 : (k : Int) ≤ 4 := by omega
                    obtain ⟨ao2, cap2, hV2, hsl2⟩ := hVG.off (lo := k) hk
                    go_wp2
                    go_round
                    case rel => exact ⟨ao2, nG - k, cap2, _, g + 1, eG, f, rfl, by go_num, rfl, hV2, by omega, by show _ < f; rw [List.length_drop, hlG.out]; have := hfu.out; have := hlen.out; omega, F⟩
                    case measure => simp [ln] <;> omega
end Go.Proofs.Qxb6605312a
