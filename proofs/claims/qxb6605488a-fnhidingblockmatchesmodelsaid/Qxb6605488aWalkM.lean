import Derived.Test.Qxb6605488aModel
namespace Go.Proofs.Qxb6605488a
open Go.RowKit
set_option linter.unusedVariables false

theorem pre_eq (s p : ByteArray) (k : Nat) : Lib.hasPrefix (s.data.toList.drop k) p.data.toList = p.data.toList.isPrefixOf (s.data.toList.drop k) := rfl

theorem pre91 (s : ByteArray) (k : Nat) (h : k < s.size) : Lib.hasPrefix (s.data.toList.drop k) [91] = (by8 s k == 91) := by
  rw [drop_by8 s k h]
  unfold Lib.hasPrefix
  simp [List.isPrefixOf]
  rw [Bool.eq_iff_iff]; simp; exact ⟨fun h => h.symm, fun h => h.symm⟩

set_option maxRecDepth 100000 in
set_option maxHeartbeats 2000000 in
theorem model9 (s : ByteArray) (hs : s.size ≤ 16777216) (r : Int) (hr : Hid (Pl.hid s.data.toList = r)) (w : World) :
    Calls Try.prog 9 #[.string s] w fun e w' => e = .returned (.int .i64 r) ∧ ∃ n, w' = w.drewN n := by
  go_enter Try.func9, Try.ntmps9
  go_wp2
  go_loop [3] (fun t => ∃ k : Nat, k ≤ s.size ∧ t = .int .i64 k ∧ Hid (∀ m, m < k → Pl.mk (by8 s m) = true)) (fun t => s.size - (intOf t).toNat)
  case atStart => exact ⟨0, by omega, rfl, fun m hm => by omega⟩
  case round =>
    obtain ⟨k, hk, rfl, hall⟩ := hrel
    by_cases hgo : k < s.size ∧ Pl.mk (by8 s k) = true
    · obtain ⟨hlt, hm⟩ := hgo
      have HM : Hid (Pl.mk (by8 s k) = true) := hm
      have H8 : Hid ((s[k].toNat : Int) = (by8 s k).toNat) := by show (s[k].toNat : Int) = _; rw [by8_eq s k hlt]
      clear hm
      go_wp2_with (go_at_call 11; refine (marker_r _ (by8 s k) H8 true HM _).mono ?_; rintro e w' ⟨rfl, rfl⟩)
      go_round
      case rel =>
        refine ⟨k + 1, by omega, by go_num, fun m hm => ?_⟩
        by_cases e : m = k
        · rw [e]; exact HM.out
        · exact hall.out m (by omega)
      case measure => simp [intOf]; omega
    · have HNP : Hid (Pl.np s.data.toList = k) := np_of s k hk hall.out (fun h => by
        cases hm : Pl.mk (by8 s k)
        · rfl
        · exact absurd ⟨h, hm⟩ hgo)
      have HF : Hid (Pl.hidR k (s.data.toList.drop k) = r) := by
        have := hr.out
        unfold Pl.hid at this
        rw [HNP.out] at this
        exact this
      have two : (¬ k < s.size ∧ True) ∨ (k < s.size ∧ Hid (Pl.mk (by8 s k) = false)) := by
        by_cases h : k < s.size
        · right
          refine ⟨h, ?_⟩
          show Pl.mk (by8 s k) = false
          cases hm : Pl.mk (by8 s k)
          · rfl
          · exact absurd ⟨h, hm⟩ hgo
        · left; exact ⟨h, trivial⟩
      clear hgo hall HNP
      rcases two with ⟨hlt, hx⟩ | ⟨hlt, HM⟩
      all_goals first
        | (have H8 : Hid ((s[k].toNat : Int) = (by8 s k).toNat) := (by show (s[k].toNat : Int) = _; rw [by8_eq s k hlt])
           go_wp2_with (go_at_call 11; refine (marker_r _ (by8 s k) H8 false HM _).mono ?_; rintro e w' ⟨rfl, rfl⟩))
        | go_wp2_with fail
      all_goals
        cases p1 : Lib.hasPrefix (s.data.toList.drop k) [126, 126, 126]
        · have P1 : Hid (Lib.hasPrefix (s.data.toList.drop k) [126, 126, 126] = false) := p1
          refine (preAt s ⟨#[126, 126, 126]⟩ k (by omega) (by decide) hk false P1.out.symm _).mono ?_
          rintro e w1 ⟨rfl, n1, rfl⟩
          clear p1
          go_wp2_with fail
          cases p2 : Lib.hasPrefix (s.data.toList.drop k) [96, 96, 96]
          · have P2 : Hid (Lib.hasPrefix (s.data.toList.drop k) [96, 96, 96] = false) := p2
            refine (preAt s ⟨#[96, 96, 96]⟩ k (by omega) (by decide) hk false P2.out.symm _).mono ?_
            rintro e w1 ⟨rfl, n2, rfl⟩
            clear p2
            have F3 : Hid (∀ b, Lib.hasPrefix (s.data.toList.drop k) [91] = b → r = if b then (if Pl.brk false (s.data.toList.drop (k + 1)) then (k : Int) else -1) else -1) := fun b hb => by
              cases b
              · exact hidR_4 k _ r HF.out P1.out P2.out hb
              · have := hidR_3 k _ r HF.out P1.out P2.out hb
                rw [List.drop_drop] at this
                exact this
            first
              | have hlk : ¬ k < s.size := hlt
                have F : Hid (r = -1) := F3.out false (by rw [drop_end s k (by omega)]; rfl)
                clear F3 HF
                go_wp2
                go_ret
                exact ⟨ret_i64 F.out.symm, _, by first | rfl | simp⟩
              | have hlk : k < s.size := hlt
                by_cases c91 : by8 s k = 91
                · have e91 : ((s[k].toNat : Int) == 91) = true := tst s k hlk 91 c91 91
                  have F : Hid (r = if Pl.brk false (s.data.toList.drop (k + 1)) then (k : Int) else -1) := F3.out true (by rw [pre91 s k hlk, c91]; rfl)
                  have C91 : Hid (by8 s k = 91) := c91
                  clear c91 F3 HF
                  go_wp2
                  go_loop [8] (fun t => ∃ j : Nat, k + 1 ≤ j ∧ j ≤ s.size ∧ t = .int .i64 j ∧ Hid (Pl.brk false (s.data.toList.drop (k + 1)) = Pl.brk (stA s k j) (s.data.toList.drop j))) (fun t => s.size - (intOf t).toNat)
                  case atStart => exact ⟨k + 1, by omega, by omega, by go_num, by show _ = _; rw [stA_start]⟩
                  case round =>
                    obtain ⟨j, hj1, hj2, rfl, HB⟩ := hrel
                    by_cases hjl : j < s.size
                    · by_cases cb : by8 s j = 91 ∨ by8 s j = 93
                      · have CB : Hid (by8 s j = 91 ∨ by8 s j = 93) := cb
                        have three : (((s[j].toNat : Int) != 91) = false ∧ ((s[j].toNat : Int) == 91) = true ∧ Hid (by8 s j = 91)) ∨ (((s[j].toNat : Int) != 91) = true ∧ ((s[j].toNat : Int) != 93) = false ∧ ((s[j].toNat : Int) == 91) = false ∧ Hid (by8 s j = 93)) := by
                          rcases cb with c | c
                          · left
                            refine ⟨?_, tst s j hjl 91 c 91, c⟩
                            rw [bne10 s j hjl 91 91 rfl, c]; rfl
                          · right
                            refine ⟨?_, ?_, ?_, c⟩
                            · rw [bne10 s j hjl 91 91 rfl, c]; rfl
                            · rw [bne10 s j hjl 93 93 rfl, c]; rfl
                            · rw [tst s j hjl 93 c 91]; rfl
                        clear cb
                        rcases three with ⟨x1, y1, C1⟩ | ⟨x1, x2, y1, C1⟩
                        all_goals go_wp2
                        all_goals
                          go_loop [10, 11] (fun t10 t11 => ∃ b p : Nat, p + b < j ∧ k ≤ p ∧ t10 = .int .i64 b ∧ t11 = .int .i64 p ∧ Hid (p + b + 1 = j) ∧ Hid (∀ m, p < m → m < j → by8 s m = 92)) (fun _ t11 => (intOf t11).toNat)
                          case atStart => exact ⟨0, j - 1, by omega, by omega, rfl, by go_num, (by omega : j - 1 + 0 + 1 = j), fun m h1 h2 => by omega⟩
                          case round =>
                            obtain ⟨b, p, hpb, hip, rfl, rfl, hpb1, hbs⟩ := hrel
                            by_cases hc : k < p ∧ by8 s p = 92
                            · obtain ⟨hkp, h92⟩ := hc
                              have hps : p < s.size := by omega
                              have e92 : ((s[p].toNat : Int) == 92) = true := tst s p hps 92 h92 92
                              have H92 : Hid (by8 s p = 92) := h92
                              clear h92
                              go_wp2
                              go_round
                              case rel =>
                                refine ⟨b + 1, p - 1, by omega, by omega, by go_num, by go_num, (by have := hpb1.out; omega : p - 1 + (b + 1) + 1 = j), fun m h1 h2 => ?_⟩
                                by_cases hm : m = p
                                · rw [hm]; exact H92.out
                                · exact hbs.out m (by omega) h2
                              case measure => simp [intOf]; omega
                            · have HS : Hid (stA s k j = (b % 2 == 1)) := by
                                refine stA_par s k j p b hj1 hj2 hpb1.out hip hbs.out ?_
                                by_cases e : p = k
                                · exact .inl e
                                · exact .inr fun h => hc ⟨by omega, h⟩
                              have HC : Hid (¬ (k < p ∧ by8 s p = 92)) := hc
                              have hps : p < s.size := by omega
                              have twoP : (¬ (k : Int) < (p : Int) ∧ True) ∨ ((k : Int) < (p : Int) ∧ ((s[p].toNat : Int) == 92) = false) := by
                                by_cases hkp : k < p
                                · right
                                  exact ⟨by omega, tstn s p hps 92 (fun h => hc ⟨hkp, h⟩) 92 rfl⟩
                                · left; exact ⟨by omega, trivial⟩
                              clear hc hbs hpb1
                              by_cases hb2 : b % 2 = 1
                              · have hb3 : ((b : Int) % 2 == 1) = true := by rw [beq_iff_eq]; omega
                                have HB2 : Hid (Pl.brk false (s.data.toList.drop (k + 1)) = Pl.brk (stA s k (j + 1)) (s.data.toList.drop (j + 1))) := by
                                  show _ = _
                                  rw [HB.out]
                                  exact brk_step s k j hj1 hjl (.inl (by rw [HS.out, hb2]; rfl))
                                clear hb2
                                rcases twoP with ⟨u1, _⟩ | ⟨u1, u2⟩
                                all_goals go_wp2
                                all_goals
                                  go_round
                                  case rel => first | exact ⟨j + 1, by omega, by omega, by go_num, HB2⟩ | (refine ⟨trivial, ?_⟩; (repeat apply Exists.intro); exact ⟨⟨j + 1, by omega, by omega, by go_num, HB2⟩, rfl⟩)
                                  case measure => simp [intOf]; omega
                              · have hb3 : ((b : Int) % 2 == 1) = false := by rw [beq_eq_false_iff_ne]; omega
                                have HS0 : Hid (stA s k j = false) := by
                                  show stA s k j = false
                                  rw [HS.out]; simpa using hb2
                                have HE : Hid (∀ x, by8 s j = x → r = if Pl.brk false (x :: s.data.toList.drop (j + 1)) then (k : Int) else -1) := fun x hx => by
                                  rw [F.out, HB.out, HS0.out, drop_by8 s j hjl, hx]
                                clear hb2
                                first
                                  | have G : Hid (by8 s j = 91) := C1
                                    have F2 : Hid (r = -1) := by
                                      show r = -1
                                      rw [HE.out 91 G.out, Pl.brk_open]; rfl
                                    rcases twoP with ⟨u1, _⟩ | ⟨u1, u2⟩
                                    all_goals go_wp2
                                    all_goals go_ret
                                    all_goals exact ⟨ret_i64 F2.out.symm, _, by first | rfl | simp⟩
                                  | have G : Hid (by8 s j = 93) := C1
                                    have HB3 : Hid (r = if (s.data.toList.drop (j + 1)).head? == some 58 then (k : Int) else -1) := by
                                      show _ = _
                                      rw [HE.out 93 G.out, Pl.brk_close]
                                    by_cases h2 : j + 1 < s.size
                                    · by_cases c58 : by8 s (j + 1) = 58
                                      · have e58 : ((s[j + 1].toNat : Int) == 58) = true := tst s (j + 1) h2 58 c58 58
                                        have F2 : Hid (r = k) := by
                                          show r = k
                                          rw [HB3.out, head_by8 s (j + 1) h2, c58]; rfl
                                        clear c58
                                        rcases twoP with ⟨u1, _⟩ | ⟨u1, u2⟩
                                        all_goals go_wp2
                                        all_goals go_ret
                                        all_goals exact ⟨ret_i64 F2.out.symm, _, by first | rfl | simp⟩
                                      · have e58 : ((s[j + 1].toNat : Int) == 58) = false := tstn s (j + 1) h2 58 c58 58 rfl
                                        have F2 : Hid (r = -1) := by
                                          show r = -1
                                          rw [HB3.out, head_by8 s (j + 1) h2, if_neg (by simpa using c58)]
                                        clear c58
                                        rcases twoP with ⟨u1, _⟩ | ⟨u1, u2⟩
                                        all_goals go_wp2
                                        all_goals go_ret
                                        all_goals exact ⟨ret_i64 F2.out.symm, _, by first | rfl | simp⟩
                                    · have F2 : Hid (r = -1) := by
                                        show r = -1
                                        rw [HB3.out, drop_end s (j + 1) (by omega)]; rfl
                                      rcases twoP with ⟨u1, _⟩ | ⟨u1, u2⟩
                                      all_goals go_wp2
                                      all_goals go_ret
                                      all_goals exact ⟨ret_i64 F2.out.symm, _, by first | rfl | simp⟩
                      · have n91 : by8 s j ≠ 91 := fun e => cb (.inl e)
                        have n93 : by8 s j ≠ 93 := fun e => cb (.inr e)
                        have x1 : ((s[j].toNat : Int) != 91) = true := by rw [bne10 s j hjl 91 91 rfl]; simpa using n91
                        have x2 : ((s[j].toNat : Int) != 93) = true := by rw [bne10 s j hjl 93 93 rfl]; simpa using n93
                        have HB2 : Hid (Pl.brk false (s.data.toList.drop (k + 1)) = Pl.brk (stA s k (j + 1)) (s.data.toList.drop (j + 1))) := by
                          show _ = _
                          rw [HB.out]
                          exact brk_step s k j hj1 hjl (.inr ⟨n91, n93⟩)
                        clear cb n91 n93
                        go_wp2
                        go_round
                        case rel => first | exact ⟨j + 1, by omega, by omega, by go_num, HB2⟩ | (refine ⟨trivial, ?_⟩; (repeat apply Exists.intro); exact ⟨⟨j + 1, by omega, by omega, by go_num, HB2⟩, rfl⟩)
                        case measure => simp [intOf]; omega
                    · have F2 : Hid (r = -1) := by
                        show r = -1
                        rw [F.out, HB.out, drop_end s j (by omega), Pl.brk_nil]; rfl
                      go_wp2
                      go_ret
                      exact ⟨ret_i64 F2.out.symm, _, by first | rfl | simp⟩
                · have e91 : ((s[k].toNat : Int) == 91) = false := tstn s k hlk 91 c91 91 rfl
                  have F : Hid (r = -1) := F3.out false (by rw [pre91 s k hlk]; simpa using c91)
                  clear c91 F3 HF
                  go_wp2
                  go_ret
                  exact ⟨ret_i64 F.out.symm, _, by first | rfl | simp⟩
          · have P2 : Hid (Lib.hasPrefix (s.data.toList.drop k) [96, 96, 96] = true) := p2
            refine (preAt s ⟨#[96, 96, 96]⟩ k (by omega) (by decide) hk true P2.out.symm _).mono ?_
            rintro e w1 ⟨rfl, n2, rfl⟩
            clear p2
            go_wp2
            have F : Hid (r = if Pl.fence (s.data.toList.drop k) then (k : Int) else -1) := hidR_2 k _ r HF.out P1.out P2.out
            clear HF
            go_loop [4] (fun t => ∃ e : Nat, k ≤ e ∧ e ≤ s.size ∧ t = .int .i64 e ∧ Hid (∀ m, k ≤ m → m < e → by8 s m ≠ 10)) (fun t => s.size - (intOf t).toNat)
            case atStart => exact ⟨k, by omega, hk, rfl, fun m h1 h2 => by omega⟩
            case round =>
              obtain ⟨e, he1, he2, rfl, hno⟩ := hrel
              by_cases hgo : e < s.size ∧ by8 s e ≠ 10
              · obtain ⟨hel, h10⟩ := hgo
                have x10 : ((s[e].toNat : Int) != 10) = true := by rw [bne10 s e hel 10 10 rfl]; simpa using h10
                have H10 : Hid (by8 s e ≠ 10) := h10
                clear h10
                go_wp2
                go_round
                case rel =>
                  refine ⟨e + 1, by omega, by omega, by go_num, fun m h1 h2 => ?_⟩
                  by_cases em : m = e
                  · rw [em]; exact H10.out
                  · exact hno.out m h1 (by omega)
                case measure => simp [intOf]; omega
              · have HE2 : Hid (e < s.size → by8 s e = 10) := fun h => by
                  apply Classical.byContradiction
                  intro hn
                  exact hgo ⟨h, hn⟩
                have twoE : (¬ e < s.size ∧ True) ∨ (e < s.size ∧ ∃ h : e < s.size, ((s[e].toNat : Int) != 10) = false) := by
                  by_cases h : e < s.size
                  · right
                    refine ⟨h, h, ?_⟩
                    rw [bne10 s e h 10 10 rfl, HE2.out h]; rfl
                  · left; exact ⟨h, trivial⟩
                clear hgo
                rcases twoE with ⟨t1, _⟩ | ⟨t1, h', t2⟩
                all_goals go_wp2
                all_goals
                  go_loop [5] (fun t => ∃ l : Nat, k + l ≤ e ∧ t = .int .i64 l ∧ Hid (∀ m, m < l → by8 s (k + m) = 96)) (fun t => e - k - (intOf t).toNat)
                  case atStart => exact ⟨0, by omega, rfl, fun m hm => by omega⟩
                  case round =>
                    obtain ⟨l, hl, rfl, hlead⟩ := hrel
                    by_cases hgo : k + l < e ∧ by8 s (k + l) = 96
                    · obtain ⟨hle, h96⟩ := hgo
                      have hks : k + l < s.size := by omega
                      have x96 : ((s[k + l].toNat : Int) == 96) = true := tst s (k + l) hks 96 h96 96
                      have H96 : Hid (by8 s (k + l) = 96) := h96
                      clear h96
                      go_wp2
                      all_goals
                        go_round
                        case rel =>
                          refine ⟨l + 1, by omega, by go_num, fun m hm => ?_⟩
                          by_cases em : m = l
                          · rw [em]; exact H96.out
                          · exact hlead.out m (by omega)
                        case measure => simp [intOf]; omega
                    · have HFC : Hid (Pl.fence (s.data.toList.drop k) = decide (cnt s k e = l)) := fence_cnt s k e l he1 he2 hno.out HE2.out hl hlead.out (fun h hn => hgo ⟨h, hn⟩)
                      have twoL : (¬ (k : Int) + (l : Int) < (e : Int) ∧ True) ∨ ((k : Int) + (l : Int) < (e : Int) ∧ ∃ h : k + l < s.size, ((s[k + l].toNat : Int) == 96) = false) := by
                        by_cases h : k + l < e
                        · right
                          exact ⟨by omega, by omega, tstn s (k + l) (by omega) 96 (fun hn => hgo ⟨h, hn⟩) 96 rfl⟩
                        · left; exact ⟨by omega, trivial⟩
                      clear hgo
                      rcases twoL with ⟨v1, _⟩ | ⟨v1, h'', v2⟩
                      all_goals go_wp2
                      all_goals
                        go_loop [6, 7] (fun t6 t7 => ∃ q c : Nat, k ≤ q ∧ q ≤ e ∧ t7 = .int .i64 q ∧ t6 = .int .i64 c ∧ c ≤ q ∧ Hid (c = cnt s k q)) (fun _ t7 => e - (intOf t7).toNat)
                        case atStart => exact ⟨k, 0, by omega, he1, rfl, rfl, by omega, (cnt_start s k).symm⟩
                        case round =>
                          obtain ⟨q, c, hq1, hq2, rfl, rfl, hcq, HCN⟩ := hrel
                          by_cases hql : q < e
                          · have hqs : q < s.size := by omega
                            have HN : Hid (cnt s k (q + 1) = cnt s k q + if by8 s q = 96 then 1 else 0) := cnt_next s k q hq1 hqs
                            by_cases h96 : by8 s q = 96
                            · have x96 : ((s[q].toNat : Int) == 96) = true := tst s q hqs 96 h96 96
                              have HN2 : Hid (c + 1 = cnt s k (q + 1)) := by show _ = _; rw [HN.out, if_pos h96, HCN.out]
                              clear h96
                              go_wp2
                              go_round
                              case rel => exact ⟨q + 1, c + 1, by omega, by omega, by go_num, by go_num, by omega, HN2⟩
                              case measure => simp [intOf]; omega
                            · have x96 : ((s[q].toNat : Int) == 96) = false := tstn s q hqs 96 h96 96 rfl
                              have HN2 : Hid (c = cnt s k (q + 1)) := by show _ = _; rw [HN.out, if_neg h96, HCN.out]; rfl
                              clear h96
                              go_wp2
                              go_round
                              case rel => exact ⟨q + 1, c, by omega, by omega, by go_num, rfl, by omega, HN2⟩
                              case measure => simp [intOf]; omega
                          · have eq1 : q = e := by omega
                            have HC2 : Hid (c = cnt s k e) := by rw [← eq1]; exact HCN
                            clear eq1 HCN
                            by_cases hcl : c = l
                            · have xcl : ((c : Int) == (l : Int)) = true := by rw [hcl]; simp
                              have F2 : Hid (r = k) := by
                                show r = k
                                rw [F.out, HFC.out, ← HC2.out, hcl]; simp
                              clear hcl
                              go_wp2
                              go_ret
                              exact ⟨ret_i64 F2.out.symm, _, by first | rfl | simp⟩
                            · have xcl : ((c : Int) == (l : Int)) = false := by rw [beq_eq_false_iff_ne]; omega
                              have F2 : Hid (r = -1) := by
                                show r = -1
                                rw [F.out, HFC.out, ← HC2.out, if_neg (by simpa using hcl)]
                              clear hcl
                              go_wp2
                              go_ret
                              exact ⟨ret_i64 F2.out.symm, _, by first | rfl | simp⟩
        · have F : Hid (r = k) := hidR_1 k _ r HF.out p1
          refine (preAt s ⟨#[126, 126, 126]⟩ k (by omega) (by decide) hk true p1.symm _).mono ?_
          rintro e w1 ⟨rfl, n1, rfl⟩
          clear p1
          go_wp2
          go_ret
          exact ⟨ret_i64 F.out.symm, _, rfl⟩

end Go.Proofs.Qxb6605488a
