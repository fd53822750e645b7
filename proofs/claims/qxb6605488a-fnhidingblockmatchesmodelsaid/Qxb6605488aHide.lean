import Derived.Test.Qxb6605488aBase
namespace Go.Proofs.Qxb6605488a
open Go.RowKit

theorem idxMS (c : UInt8) : (0 ≤ Lib.indexByte Pl.MS c ↔ Pl.mk c = true) := by
  rw [Pl.mk_MS, decide_eq_true_iff]
  rcases indexByte_form Pl.MS c with ⟨h, ha⟩ | ⟨k, hk, he, hkc, _⟩
  · rw [h]
    constructor
    · intro h; omega
    · intro h; exact absurd rfl (ha c h)
  · rw [he]
    constructor
    · intro _; rw [← hkc]; exact List.getElem_mem hk
    · intro _; omega

/-- The search for a byte among the markers. -/
theorem idxMS_r (x : Int) (c : UInt8) (hx : Hid (x = c.toNat)) (r : Int) (hr : Hid (Lib.indexByte Pl.MS c = r)) (w : World) :
    Calls Try.prog 25 #[.string ⟨#[32, 9, 48, 49, 50, 51, 52, 53, 54, 55, 56, 57, 62, 45, 43, 42, 46, 41]⟩, .int .u8 x] w fun e w' => e = .returned (.int .i64 r) ∧ w' = w := by
  have h := Try.strings_IndexByte ⟨#[32, 9, 48, 49, 50, 51, 52, 53, 54, 55, 56, 57, 62, 45, 43, 42, 46, 41]⟩ x w
  have e : x.toNat.toUInt8 = c := by
    rw [hx.out]
    simp
  rw [e] at h
  have e2 : (⟨#[32, 9, 48, 49, 50, 51, 52, 53, 54, 55, 56, 57, 62, 45, 43, 42, 46, 41]⟩ : ByteArray).data.toList = Pl.MS := rfl
  rw [e2, hr.out] at h
  exact h

theorem np_of (s : ByteArray) (k : Nat) (hk : k ≤ s.size) (h1 : ∀ m, m < k → Pl.mk (by8 s m) = true) (h2 : k < s.size → Pl.mk (by8 s k) = false) : Pl.np s.data.toList = k := by
  refine Pl.np_eq _ k (by rw [size_list]; exact hk) (fun j h hj => ?_) (fun h => ?_)
  · rw [by8_list]; exact h1 j hj
  · rw [by8_list]; rw [size_list] at h; exact h2 h

theorem idx_mem (L : List UInt8) (c : UInt8) : decide (0 ≤ Lib.indexByte L c) = L.contains c := by
  rw [Bool.eq_iff_iff, decide_eq_true_iff, List.contains_iff_mem]
  rcases indexByte_form L c with ⟨h, ha⟩ | ⟨k, hk, he, hkc, _⟩
  · rw [h]
    constructor
    · intro h; omega
    · intro h; exact absurd rfl (ha c h)
  · rw [he]
    constructor
    · intro _; rw [← hkc]; exact List.getElem_mem hk
    · intro _; omega

theorem drop_tw (f : UInt8 → Bool) (L : List UInt8) : L.drop (L.takeWhile f).length = L.dropWhile f := by
  induction L with
  | nil => rfl
  | cons x L ih =>
    rw [List.takeWhile_cons, List.dropWhile_cons]
    split
    · simpa using ih
    · rfl

/-- The line of a fence. -/
theorem fence_facts (R line : ByteArray) (hp : Lib.hasPrefix R.data.toList [96, 96, 96] = true) (hl : Hid (line.data.toList = R.data.toList.takeWhile (· != 10))) :
    0 < line.size ∧ Hid (by8 line 0 = 96) ∧ ∃ rl : Nat, rl ≤ line.size ∧ Hid ((line.data.toList.takeWhile (· == 96)).length = rl) ∧ ∀ b, Hid (Pl.fence R.data.toList = b) → decide (0 ≤ Lib.indexByte (List.take (line.size - rl) (List.drop rl line.data.toList)) 96) = !b := by
  have h1 : ∃ t, R.data.toList = 96 :: t := by
    unfold Lib.hasPrefix at hp
    cases hR : R.data.toList with
    | nil => rw [hR] at hp; simp at hp
    | cons y t =>
      rw [hR] at hp
      simp only [List.isPrefixOf, Bool.and_eq_true, beq_iff_eq] at hp
      exact ⟨t, by rw [hp.1]⟩
  obtain ⟨t, ht⟩ := h1
  have h2 : line.data.toList = 96 :: t.takeWhile (· != 10) := by
    rw [hl.out, ht, List.takeWhile_cons, if_pos (by decide)]
  have h3 : 0 < line.size := by rw [← size_list, h2]; simp
  refine ⟨h3, ?_, _, ?_, rfl, fun b hb => ?_⟩
  · show by8 line 0 = 96
    unfold by8; rw [h2]; rfl
  · rw [← size_list]; exact (List.takeWhile_sublist _).length_le
  · rw [drop_list, drop_tw, idx_mem, ← hb.out, hl.out]
    unfold Pl.fence
    simp

theorem drop_by8 (R : ByteArray) (j : Nat) (h : j < R.size) : R.data.toList.drop j = by8 R j :: R.data.toList.drop (j + 1) := by
  have h' : j < R.data.toList.length := by rw [size_list]; exact h
  rw [List.drop_eq_getElem_cons h', by8_list]

theorem head_by8 (R : ByteArray) (j : Nat) (h : j < R.size) : (R.data.toList.drop j).head? = some (by8 R j) := by rw [drop_by8 R j h]; rfl
theorem drop_end (R : ByteArray) (j : Nat) (h : R.size ≤ j) : R.data.toList.drop j = [] := List.drop_eq_nil_of_le (by rw [size_list]; exact h)

theorem hidR_1 (k : Nat) (R : List UInt8) (r : Int) (h : Pl.hidR k R = r) (p1 : Lib.hasPrefix R [126, 126, 126] = true) : r = k := by
  rw [← h]; unfold Pl.hidR; unfold Lib.hasPrefix at p1; rw [if_pos p1]
theorem hidR_2 (k : Nat) (R : List UInt8) (r : Int) (h : Pl.hidR k R = r) (p1 : Lib.hasPrefix R [126, 126, 126] = false) (p2 : Lib.hasPrefix R [96, 96, 96] = true) : r = if Pl.fence R then (k : Int) else -1 := by
  rw [← h]; unfold Pl.hidR; unfold Lib.hasPrefix at p1 p2; rw [if_neg (by rw [p1]; decide), if_pos p2]
theorem hidR_3 (k : Nat) (R : List UInt8) (r : Int) (h : Pl.hidR k R = r) (p1 : Lib.hasPrefix R [126, 126, 126] = false) (p2 : Lib.hasPrefix R [96, 96, 96] = false) (p3 : Lib.hasPrefix R [91] = true) : r = if Pl.brk false (R.drop 1) then (k : Int) else -1 := by
  rw [← h]; unfold Pl.hidR; unfold Lib.hasPrefix at p1 p2 p3; rw [if_neg (by rw [p1]; decide), if_neg (by rw [p2]; decide), if_pos p3]
theorem hidR_4 (k : Nat) (R : List UInt8) (r : Int) (h : Pl.hidR k R = r) (p1 : Lib.hasPrefix R [126, 126, 126] = false) (p2 : Lib.hasPrefix R [96, 96, 96] = false) (p3 : Lib.hasPrefix R [91] = false) : r = -1 := by
  rw [← h]; unfold Pl.hidR; unfold Lib.hasPrefix at p1 p2 p3; rw [if_neg (by rw [p1]; decide), if_neg (by rw [p2]; decide), if_neg (by rw [p3]; decide)]

set_option maxHeartbeats 1000000 in
theorem hide21 (s : ByteArray) (hs : s.size ≤ 16777216) (r : Int) (hr : Hid (Pl.hid s.data.toList = r)) (w : World) :
    Calls Try.prog 21 #[.string s] w fun e w' => e = .returned (.int .i64 r) ∧ ∃ n, w' = w.drewN n := by
  go_enter Try.func21, Try.ntmps21
  go_wp2
  go_loop [3] (fun t => ∃ k : Nat, k ≤ s.size ∧ t = .int .i64 k ∧ Hid (∀ m, m < k → Pl.mk (by8 s m) = true)) (fun t => s.size - (intOf t).toNat)
  case atStart => exact ⟨0, by omega, rfl, fun m hm => by omega⟩
  case round =>
    obtain ⟨k, hk, rfl, hall⟩ := hrel
    by_cases hgo : k < s.size ∧ Pl.mk (by8 s k) = true
    · obtain ⟨hlt, hm⟩ := hgo
      have HM : Hid (Pl.mk (by8 s k) = true) := hm
      have H8 : Hid ((s[k].toNat : Int) = (by8 s k).toNat) := by show (s[k].toNat : Int) = _; rw [by8_eq s k hlt]
      obtain ⟨i, hi⟩ : ∃ i, Lib.indexByte Pl.MS (by8 s k) = i := ⟨_, rfl⟩
      have hi0 : 0 ≤ i := by rw [← hi]; exact (idxMS _).2 hm
      have HI : Hid (Lib.indexByte Pl.MS (by8 s k) = i) := hi
      clear hm hi
      go_wp2_with (go_at_call 25; refine (idxMS_r _ (by8 s k) H8 i HI _).mono ?_; rintro e w' ⟨rfl, rfl⟩)
      go_round
      case rel =>
        refine ⟨k + 1, by omega, by go_num, fun m hm => ?_⟩
        by_cases e : m = k
        · rw [e]; exact HM.out
        · exact hall.out m (by omega)
      case measure => simp [intOf]; omega
    · have HNP : Hid (Pl.np s.data.toList = k) := np_of s k hk hall.out (fun h => by
        cases hm : Pl.mk (by8 s k)
        · rfl
        · exact absurd ⟨h, hm⟩ hgo)
      have HG : Hid (¬ (k < s.size ∧ Pl.mk (by8 s k) = true)) := hgo
      clear hgo hall
      have two : (¬ k < s.size ∧ True) ∨ (k < s.size ∧ ∃ i : Int, i < 0 ∧ Hid (Lib.indexByte Pl.MS (by8 s k) = i)) := by
        by_cases h : k < s.size
        · right
          refine ⟨h, _, ?_, rfl⟩
          apply Classical.byContradiction
          intro hn
          exact HG.out ⟨h, (idxMS _).1 (by omega)⟩
        · left; exact ⟨h, trivial⟩
      rcases two with ⟨hlt, hx⟩ | ⟨hlt, i, hi0, HI⟩
      all_goals first
        | (have H8 : Hid ((s[k].toNat : Int) = (by8 s k).toNat) := (by show (s[k].toNat : Int) = _; rw [by8_eq s k hlt])
           go_wp2_with (go_at_call 25; refine (idxMS_r _ (by8 s k) H8 i HI _).mono ?_; rintro e w' ⟨rfl, rfl⟩))
        | go_wp2_with fail
      all_goals
        generalize hRd : s.extract k s.size = R
        have HRL : Hid (R.data.toList = s.data.toList.drop k) := by rw [← hRd]; exact extract_list s k
        have hRs : R.size ≤ 16777216 := by
          rw [← size_list, HRL.out, List.length_drop, size_list]; omega
        have HF : Hid (Pl.hidR k R.data.toList = r) := by
          have := hr.out
          unfold Pl.hid at this
          rw [HNP.out] at this
          rw [HRL.out]; exact this
        clear hRd HG HNP
        cases p1 : Lib.hasPrefix R.data.toList [126, 126, 126]
        · refine (Try.strings_HasPrefix R ⟨#[126, 126, 126]⟩ _).mono ?_
          rintro e w1 ⟨rfl, rfl⟩
          go_wp2_with fail
          cases p2 : Lib.hasPrefix R.data.toList [96, 96, 96]
          · refine (Try.strings_HasPrefix R ⟨#[96, 96, 96]⟩ _).mono ?_
            rintro e w1 ⟨rfl, rfl⟩
            go_wp2_with fail
            cases p3 : Lib.hasPrefix R.data.toList [91]
            · have F : Hid (r = -1) := hidR_4 k _ r HF.out p1 p2 p3
              refine (Try.strings_HasPrefix R ⟨#[91]⟩ _).mono ?_
              rintro e w1 ⟨rfl, rfl⟩
              go_wp2
              go_ret
              exact ⟨ret_i64 F.out.symm, 0, rfl⟩
            · have F : Hid (r = if Pl.brk false (R.data.toList.drop 1) then (k : Int) else -1) := hidR_3 k _ r HF.out p1 p2 p3
              refine (Try.strings_HasPrefix R ⟨#[91]⟩ _).mono ?_
              rintro e w1 ⟨rfl, rfl⟩
              go_wp2
              clear p1 p2 p3 HF
              go_loop [8] (fun t => ∃ j : Nat, 1 ≤ j ∧ j ≤ R.size + 1 ∧ t = .int .i64 j ∧ Hid (Pl.brk false (R.data.toList.drop 1) = Pl.brk false (R.data.toList.drop j))) (fun t => R.size + 1 - (intOf t).toNat)
              case atStart => exact ⟨1, by omega, by omega, rfl, rfl⟩
              case round =>
                obtain ⟨j, hj1, hj2, rfl, HB⟩ := hrel
                by_cases hjl : j < R.size
                · have HD := drop_by8 R j hjl
                  by_cases c92 : by8 R j = 92
                  · have e92 : ((R[j].toNat : Int) == 92) = true := tst R j hjl 92 c92 92
                    have HB2 : Hid (Pl.brk false (R.data.toList.drop 1) = Pl.brk false (R.data.toList.drop (j + 2))) := by
                      show _ = _
                      rw [HB.out, HD, c92, Pl.brk_bs]
                      by_cases h2 : j + 1 < R.size
                      · rw [drop_by8 R (j + 1) h2, Pl.brk_true]
                      · rw [drop_end R (j + 1) (by omega), drop_end R (j + 2) (by omega), Pl.brk_nil, Pl.brk_nil]
                    clear c92 HD
                    go_wp2
                    go_round
                    case rel => exact ⟨j + 2, by omega, by omega, by go_num, HB2⟩
                    case measure => simp [intOf]; omega
                  · have e92 : ((R[j].toNat : Int) == 92) = false := tstn R j hjl 92 c92 92 rfl
                    by_cases c91 : by8 R j = 91
                    · have e91 : ((R[j].toNat : Int) == 91) = true := tst R j hjl 91 c91 91
                      have F2 : Hid (r = -1) := by
                        show r = -1
                        rw [F.out, HB.out, HD, c91, Pl.brk_open]; rfl
                      clear c91 c92 HD
                      go_wp2
                      go_ret
                      exact ⟨ret_i64 F2.out.symm, 0, rfl⟩
                    · have e91 : ((R[j].toNat : Int) == 91) = false := tstn R j hjl 91 c91 91 rfl
                      by_cases c93 : by8 R j = 93
                      · have e93 : ((R[j].toNat : Int) == 93) = true := tst R j hjl 93 c93 93
                        have HB3 : Hid (Pl.brk false (R.data.toList.drop 1) = ((R.data.toList.drop (j + 1)).head? == some 58)) := by
                          show _ = _
                          rw [HB.out, HD, c93, Pl.brk_close]
                        clear c91 c92 c93 HD
                        by_cases h2 : j + 1 < R.size
                        · by_cases c58 : by8 R (j + 1) = 58
                          · have e58 : ((R[j + 1].toNat : Int) == 58) = true := tst R (j + 1) h2 58 c58 58
                            have F2 : Hid (r = k) := by
                              show r = k
                              rw [F.out, HB3.out, head_by8 R (j + 1) h2, c58]; rfl
                            clear c58
                            go_wp2
                            go_ret
                            exact ⟨ret_i64 F2.out.symm, 0, rfl⟩
                          · have e58 : ((R[j + 1].toNat : Int) == 58) = false := tstn R (j + 1) h2 58 c58 58 rfl
                            have F2 : Hid (r = -1) := by
                              show r = -1
                              rw [F.out, HB3.out, head_by8 R (j + 1) h2, if_neg (by simpa using c58)]
                            clear c58
                            go_wp2
                            go_ret
                            exact ⟨ret_i64 F2.out.symm, 0, rfl⟩
                        · have F2 : Hid (r = -1) := by
                            show r = -1
                            rw [F.out, HB3.out, drop_end R (j + 1) (by omega)]; rfl
                          go_wp2
                          go_ret
                          exact ⟨ret_i64 F2.out.symm, 0, rfl⟩
                      · have e93 : ((R[j].toNat : Int) == 93) = false := tstn R j hjl 93 c93 93 rfl
                        have HB2 : Hid (Pl.brk false (R.data.toList.drop 1) = Pl.brk false (R.data.toList.drop (j + 1))) := by
                          show _ = _
                          rw [HB.out, HD, Pl.brk_else _ _ c92 c91 c93]
                        clear c91 c92 c93 HD
                        go_wp2
                        go_round
                        case rel => exact ⟨j + 1, by omega, by omega, by go_num, HB2⟩
                        case measure => simp [intOf]; omega
                · have F2 : Hid (r = -1) := by
                    show r = -1
                    rw [F.out, HB.out, drop_end R j (by omega), Pl.brk_nil]; rfl
                  go_wp2
                  go_ret
                  exact ⟨ret_i64 F2.out.symm, 0, rfl⟩
          · have F : Hid (r = if Pl.fence R.data.toList then (k : Int) else -1) := hidR_2 k _ r HF.out p1 p2
            obtain ⟨line, y, b, hline, hls, HC⟩ := cut27 R (by omega) 10
            obtain ⟨hl0, hl96, rl, hrl, HRL2, hcont⟩ := fence_facts R line p2 hline
            refine (Try.strings_HasPrefix R ⟨#[96, 96, 96]⟩ _).mono ?_
            rintro e w1 ⟨rfl, rfl⟩
            cases hf : Pl.fence R.data.toList
            · have hcz := hcont false hf
              simp only [Bool.not_false] at hcz
              have F2 : Hid (r = -1) := by show r = -1; rw [F.out, hf]; rfl
              clear hf hcont F HF
              go_wp2_with (first | (go_at_call 27; refine (HC.out _).mono ?_; rintro e w2 ⟨rfl, n2, rfl⟩) | (go_at_call 29; refine (runLen29 line (by omega) hl0 hl96 rl HRL2 _).mono ?_; rintro e w3 ⟨rfl, n3, rfl⟩) | (go_at_call 28; refine (Try.strings_Contains_one _ 96 _).mono ?_; rintro e w4 ⟨rfl, rfl⟩))
              go_ret
              exact ⟨ret_i64 F2.out.symm, _, rfl⟩
            · have hcz := hcont true hf
              simp only [Bool.not_true] at hcz
              have F2 : Hid (r = k) := by show r = k; rw [F.out, hf]; rfl
              clear hf hcont F HF
              go_wp2_with (first | (go_at_call 27; refine (HC.out _).mono ?_; rintro e w2 ⟨rfl, n2, rfl⟩) | (go_at_call 29; refine (runLen29 line (by omega) hl0 hl96 rl HRL2 _).mono ?_; rintro e w3 ⟨rfl, n3, rfl⟩) | (go_at_call 28; refine (Try.strings_Contains_one _ 96 _).mono ?_; rintro e w4 ⟨rfl, rfl⟩))
              go_ret
              exact ⟨ret_i64 F2.out.symm, _, rfl⟩
        · have F : Hid (r = k) := hidR_1 k _ r HF.out p1
          refine (Try.strings_HasPrefix R ⟨#[126, 126, 126]⟩ _).mono ?_
          rintro e w1 ⟨rfl, rfl⟩
          go_wp2
          go_ret
          exact ⟨ret_i64 F.out.symm, 0, rfl⟩

end Go.Proofs.Qxb6605488a
