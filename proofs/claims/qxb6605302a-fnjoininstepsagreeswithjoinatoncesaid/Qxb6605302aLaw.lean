import Derived.Test.Qxb6605302aBytes
namespace Go.Proofs.Qxb6605302a
open Go.RowKit
set_option linter.unusedVariables false

theorem sl_block {w : World} {ao : Option Addr} {n cap : Nat} {ad : Addr} {ss : List ByteArray} (h : SlOk w ao n cap ad ss) {w1 : World} (hB : Below w.heap.size w w1) : Hid (n ≠ 0 → ad.block < w1.heap.size) := fun hn => by
  have := World.block_lt_of_cell? w _ (h.cell 0 (by omega))
  rw [add_block] at this
  have := hB.size
  omega
theorem sl_cells {w : World} {ao : Option Addr} {n cap : Nat} {ad : Addr} {ss : List ByteArray} (h : SlOk w ao n cap ad ss) {w1 : World} (hB : Below w.heap.size w w1) : Hid (∀ j, j < n → w1.cell? (ad.add j) = some (.string (ss.getD j ByteArray.empty))) := fun j hj => by
  have h0 := World.block_lt_of_cell? w _ (h.cell j hj)
  rw [hB.cell (p := ad.add j) h0]
  exact h.cell j hj

theorem last_list (s : ByteArray) (h : s.size ≠ 0) : s.data.toList.getLast? = some (by8 s (s.size - 1)) := by
  rw [List.getLast?_eq_getElem?, size_list]
  unfold by8
  have hl : s.size - 1 < s.data.toList.length := by rw [size_list]; omega
  rw [List.getD_eq_getElem?_getD, List.getElem?_eq_getElem hl]
  rfl

theorem by8_left (r a : ByteArray) (x : List UInt8) (h : r.data.toList = a.data.toList ++ x) (j : Nat) (hj : j < a.size) : by8 r j = by8 a j := by
  have hl : j < a.data.toList.length := by rw [size_list]; exact hj
  unfold by8
  rw [h, List.getD_eq_getElem?_getD, List.getD_eq_getElem?_getD, List.getElem?_append_left hl]

theorem by8_right (r a : ByteArray) (x : List UInt8) (h : r.data.toList = x ++ a.data.toList) (j : Nat) : by8 r (x.length + j) = by8 a j := by
  unfold by8
  rw [h, List.getD_eq_getElem?_getD, List.getD_eq_getElem?_getD, List.getElem?_append_right (by omega)]
  congr 2; omega

theorem b38_of (a0 : ByteArray) (b : Bool) (hb : b = decide ((63 : UInt8) ∈ a0.data.toList)) (hbad : ¬ (b = false ∧ a0.size ≠ 0 ∧ by8 a0 (a0.size - 1) = 38)) : Hid (a0.data.toList.getLast? = some 38 → (63 : UInt8) ∈ a0.data.toList) := fun e => by
  by_cases h0 : a0.size = 0
  · have : a0.data.toList = [] := List.eq_nil_of_length_eq_zero (by rw [size_list]; exact h0)
    rw [this] at e; cases e
  · rw [last_list a0 h0] at e
    apply Classical.byContradiction
    intro hn
    exact hbad ⟨by rw [hb]; exact decide_eq_false hn, h0, by simpa using e⟩

/-- What the law's last line asks. -/
theorem fin_facts (a0 r1 r2 r3 r4 lst : ByteArray) (ps qs : List ByteArray) (np : Nat) (hnp : np ≠ 0) (hl : ps.length = np) (hq : qs ≠ []) (hls : lst = ps.getD (np - 1) ByteArray.empty) (hl0 : lst.size ≠ 0) (hes : endsSep lst = false)
    (hB38 : a0.data.toList.getLast? = some 38 → (63 : UInt8) ∈ a0.data.toList)
    (h1 : r1.data.toList = Pl.J a0.data.toList (ps.map toL)) (h2 : r2.data.toList = Pl.J r1.data.toList (qs.map toL)) (h3 : r3.data.toList = Pl.J a0.data.toList ((ps ++ qs).map toL)) (h4 : r4.data.toList = Pl.amp ((ps ++ qs).map toL)) :
    r2 = r3 ∧ a0.size ≤ r3.size ∧ Hid (∀ j, j < a0.size → by8 r3 j = by8 a0 j) ∧ a0.size + r4.size ≤ r3.size ∧ r3.size ≤ a0.size + r4.size + 1 ∧ ∃ d, r4.size + d = r3.size ∧ Hid (∀ j, j < r4.size → by8 r3 (d + j) = by8 r4 j) := by
  have hps : ps.map toL = (ps.take (np - 1)).map toL ++ [lst.data.toList] := by
    have hk : np - 1 < ps.length := by omega
    have e : ps.getD (np - 1) ByteArray.empty = ps[np - 1] := by rw [List.getD_eq_getElem?_getD, List.getElem?_eq_getElem hk]; rfl
    have e2 : ps = ps.take (np - 1) ++ [ps[np - 1]] := by
      rw [← List.take_succ_eq_append_getElem hk, List.take_of_length_le (by omega)]
    conv => lhs; rw [e2]
    rw [List.map_append, hls, e]; rfl
  have hlast := last_list lst hl0
  have hx0 : lst.data.toList ≠ [] := fun e => by rw [e] at hlast; cases hlast
  simp only [endsSep, if_neg hl0, Bool.or_eq_false_iff, beq_eq_false_iff_ne] at hes
  have hst := Pl.step a0.data.toList lst.data.toList ((ps.take (np - 1)).map toL) (qs.map toL) hx0 (by rw [hlast]; simpa using hes.1) (by rw [hlast]; simpa using hes.2) hB38 (by simpa using hq)
  rw [← hps] at hst
  have hmap : (ps ++ qs).map toL = ps.map toL ++ qs.map toL := List.map_append
  have e23 : r2.data.toList = r3.data.toList := by rw [h2, h1, hst, h3, hmap]
  have h3' : r3.data.toList = (a0.data.toList ++ Pl.sepOf a0.data.toList) ++ r4.data.toList := by rw [h3, h4]; rfl
  have hs3 := size_list r3
  have hs4 := size_list r4
  have hs0 := size_list a0
  have hsep := Pl.sepOf_le a0.data.toList
  have hlen := congrArg List.length h3'
  simp only [List.length_append] at hlen
  refine ⟨?_, by omega, fun j hj => by8_left r3 a0 (Pl.sepOf a0.data.toList ++ r4.data.toList) (by rw [h3']; simp) j hj, by omega, by omega, (a0.data.toList ++ Pl.sepOf a0.data.toList).length, by simp only [List.length_append]; omega, fun j _ => by8_right r3 r4 _ h3' j⟩
  cases r2 with
  | mk d2 =>
    cases r3 with
    | mk d3 =>
      have : d2 = d3 := by
        have e : d2.toList = d3.toList := e23
        exact Array.toList_inj.1 e
      rw [this]

theorem amp_small (ss : List ByteArray) (hs : sumz ss ≤ 1048576) (hn : ss.length ≤ 1048576) : Hid ((Pl.amp (ss.map toL)).length ≤ 16777216) := by
  have h := txt_le ss ss.length
  unfold txt at h
  rw [List.take_length] at h
  show _ ≤ _
  omega
theorem J_small (r a : ByteArray) (ss : List ByteArray) (h : Hid (r.data.toList = Pl.J a.data.toList (ss.map toL))) (ha : a.size ≤ 4194304) (hs : sumz ss ≤ 1048576) (hn : ss.length ≤ 1048576) : r.size ≤ a.size + 2097153 := by
  have h1 := txt_le ss ss.length
  unfold txt at h1
  rw [List.take_length] at h1
  have h2 := congrArg List.length h.out
  unfold Pl.J at h2
  have h3 := Pl.sepOf_le a.data.toList
  simp only [List.length_append] at h2
  rw [size_list, size_list] at h2
  omega
theorem own_cap {w : World} {base g n cap : Nat} {xs : List Value} (h : w.ownsRow base 9 1 (.slice (some ⟨g, 0, none⟩) n cap) n xs) : n ≤ cap := by
  rcases h.2 with ⟨hv, _⟩ | ⟨g', cap', cur, hv, hb, hgg, hnc, _⟩
  · simp at hv
  · simp only [Value.slice.injEq, Option.some.injEq, Addr.mk.injEq, and_true, true_and] at hv
    obtain ⟨rfl, rfl⟩ := hv
    exact hnc

namespace fnJoinInStepsAgreesWithJoinAtOnce

set_option maxRecDepth 100000 in
set_option maxHeartbeats 2000000 in
theorem walk_main (a0 : ByteArray) (po qo : Option Addr) (np nq cp cq : Nat) (pd qd : Addr) (ps qs : List ByteArray) (w : World) (w0 : a0.size ≤ maxLen) (hP : SlOk w po np cp pd ps) (hQ : SlOk w qo nq cq qd qs)
    (hall : a0.size + np + sumz ps + nq + sumz qs ≤ 1048576) (cnp : np ≤ 65536) (cnq : nq ≤ 65536) (ct : a0.size + 16 * (np + nq) ≤ 1048576) :
    Calls Try.prog 5 #[.string a0, .slice po np cp, .slice qo nq cq] w fun e w' => e = .returned (.bool true) ∧ Below w.heap.size w w' := by
  have hb11 : Hid (true = decide (a0.size + np + sumz ps + nq + sumz qs ≤ 1048576)) := by show true = _; simp [hall]
  have HA : Hid (a0.size + np + sumz ps + nq + sumz qs ≤ 1048576) := hall
  have h0 : a0.size ≤ 1048576 := by omega
  obtain ⟨Z, hZ⟩ : ∃ Z, Z = w.heap.size := ⟨_, rfl⟩
  have HZ : Hid (Z = w.heap.size) := hZ
  clear hZ hall
  go_enter Try.func5, Try.ntmps5
  go_wp2_with (go_at_call 11; refine (bytes11 a0 po qo np nq cp cq pd qd ps qs _ w0 hP hQ true hb11).mono ?_; rintro e w' ⟨rfl, rfl⟩)
  go_loop [7, 8] (fun t7 t8 => ∃ k z : Nat, k ≤ np ∧ t8 = .int .i64 k ∧ t7 = .int .i64 z ∧ z ≤ 1048576 ∧ Hid (z = a0.size + 16 * (np + nq) + sumz (ps.take k))) (fun _ t8 => np - (intOf t8).toNat)
  case atStart => exact ⟨0, a0.size + 16 * (np + nq), by omega, rfl, by go_num, by omega, by simp [sumz, Hid]⟩
  case round =>
    obtain ⟨k, z, hk, rfl, rfl, hz, HZk⟩ := hrel
    by_cases hlt : k < np
    · have hc := hP.cell k hlt
      have hix := hP.ix k hlt
      obtain ⟨s, hss⟩ : ∃ s, s = ps.getD k ByteArray.empty := ⟨_, rfl⟩
      rw [← hss] at hc
      have H1 : Hid (sumz (ps.take (k + 1)) = sumz (ps.take k) + s.size) := by have := sumz_take ps k (by have := hP.len; omega); rw [← hss] at this; exact this
      have hs : s.size ≤ 1048576 := by
        have := HA.out; have := sumz_le ps (k + 1); have := H1.out; omega
      clear hss
      go_wp2
      · go_ret
        exact ⟨rfl, Below.refl _ _⟩
      · go_round
        case rel => exact ⟨k + 1, z + s.size, by omega, by go_num, by go_num, by omega, by have := HZk.out; have := H1.out; show _ = _; omega⟩
        case measure => simp [intOf]; omega
    · have H3 : Hid (z = a0.size + 16 * (np + nq) + sumz ps) := by
        have := HZk.out; rw [List.take_of_length_le (by have := hP.len; omega)] at this; exact this
      clear HZk
      go_wp2
      go_loop [7, 9] (fun t7 t9 => ∃ k y : Nat, k ≤ nq ∧ t9 = .int .i64 k ∧ t7 = .int .i64 y ∧ y ≤ 1048576 ∧ Hid (y = z + sumz (qs.take k))) (fun _ t9 => nq - (intOf t9).toNat)
      case atStart => exact ⟨0, z, by omega, rfl, by go_num, by omega, by simp [sumz, Hid]⟩
      case round =>
        obtain ⟨j, y, hj, rfl, rfl, hy, HYk⟩ := hrel
        by_cases hjl : j < nq
        · have hc := hQ.cell j hjl
          have hix := hQ.ix j hjl
          obtain ⟨s, hss⟩ : ∃ s, s = qs.getD j ByteArray.empty := ⟨_, rfl⟩
          rw [← hss] at hc
          have H1 : Hid (sumz (qs.take (j + 1)) = sumz (qs.take j) + s.size) := by have := sumz_take qs j (by have := hQ.len; omega); rw [← hss] at this; exact this
          have hs : s.size ≤ 1048576 := by
            have := HA.out; have := sumz_le qs (j + 1); have := H1.out; omega
          clear hss
          go_wp2
          · go_ret
            exact ⟨rfl, Below.refl _ _⟩
          · go_round
            case rel => exact ⟨j + 1, y + s.size, by omega, by go_num, by go_num, by omega, by have := HYk.out; have := H1.out; show _ = _; omega⟩
            case measure => simp [intOf]; omega
        · have H4 : Hid (y = a0.size + 16 * (np + nq) + sumz ps + sumz qs) := by
            have h4 := HYk.out; have h3 := H3.out; rw [List.take_of_length_le (by have := hQ.len; omega)] at h4; show _ = _; omega
          clear HYk H3
          by_cases hp0 : np = 0
          · have hp1 : ((np : Int) == 0) = true := by rw [hp0]; rfl
            clear hp0
            go_wp2
            go_ret
            exact ⟨rfl, Below.refl _ _⟩
          · have hp1 : ((np : Int) == 0) = false := by rw [beq_eq_false_iff_ne]; omega
            by_cases hq0 : nq = 0
            · have hq1 : ((nq : Int) == 0) = true := by rw [hq0]; rfl
              clear hq0
              go_wp2
              go_ret
              exact ⟨rfl, Below.refl _ _⟩
            · have hq1 : ((nq : Int) == 0) = false := by rw [beq_eq_false_iff_ne]; omega
              obtain rfl := hP.some hp0
              obtain rfl := hQ.some hq0
              obtain ⟨lst, hlst⟩ : ∃ l, l = ps.getD (np - 1) ByteArray.empty := ⟨_, rfl⟩
              have hcl : w'.cell? (pd.add (np - 1)) = some (.string lst) := by rw [hlst]; exact hP.cell (np - 1) (by omega)
              have HLS : Hid (lst = ps.getD (np - 1) ByteArray.empty) := hlst
              have hls : lst.size ≤ 1048576 := by
                have := HA.out; have := sumz_le ps (np - 1 + 1); have h1 := sumz_take ps (np - 1) (by have := hP.len; omega); rw [← hlst] at h1; omega
              clear hlst
              by_cases hl0 : lst.size = 0
              · have hl1 : ((lst.size : Int) == 0) = true := by rw [hl0]; rfl
                clear hl0
                go_wp2
                go_ret
                exact ⟨rfl, Below.refl _ _⟩
              · have hl1 : ((lst.size : Int) == 0) = false := by rw [beq_eq_false_iff_ne]; omega
                have HL0 : Hid (lst.size ≠ 0) := hl0
                clear hl0
                cases hes : endsSep lst
                · have HES : Hid (endsSep lst = false) := hes
                  clear hes
                  obtain ⟨b13, hb13⟩ : ∃ b, b = decide ((63 : UInt8) ∈ a0.data.toList) := ⟨_, rfl⟩
                  have HB13 : Hid (b13 = decide ((63 : UInt8) ∈ a0.data.toList)) := hb13
                  clear hb13
                  by_cases hbad : b13 = false ∧ a0.size ≠ 0 ∧ by8 a0 (a0.size - 1) = 38
                  · obtain ⟨rfl, hn0, h38⟩ := hbad
                    have hml : a0.size - 1 < a0.size := by omega
                    have e38 : ((a0[a0.size - 1].toNat : Int) == 38) = true := tst a0 (a0.size - 1) hml 38 h38 38
                    have hpos : (0 : Int) < (a0.size : Int) := by omega
                    clear h38
                    go_wp2_with (first | (go_at_call 12; refine (ends12 lst (by omega) false HES _).mono ?_; rintro e w' ⟨rfl, rfl⟩) | (go_at_call 13; refine (cont13 a0 (by omega) false HB13 _).mono ?_; rintro e w' ⟨rfl, rfl⟩))
                    go_ret
                    exact ⟨rfl, Below.refl _ _⟩
                  · have HBAD : Hid (¬ (b13 = false ∧ a0.size ≠ 0 ∧ by8 a0 (a0.size - 1) = 38)) := hbad
                    have three : (b13 = true ∧ True) ∨ (b13 = false ∧ ¬ (0 : Int) < (a0.size : Int)) ∨ (b13 = false ∧ (0 : Int) < (a0.size : Int) ∧ ∃ h : a0.size - 1 < a0.size, ((a0[a0.size - 1].toNat : Int) == 38) = false) := by
                      cases b13
                      · right
                        by_cases h : a0.size = 0
                        · left; exact ⟨rfl, by omega⟩
                        · right; exact ⟨rfl, by omega, by omega, tstn a0 (a0.size - 1) (by omega) 38 (fun e => HBAD.out ⟨rfl, by omega, e⟩) 38 rfl⟩
                      · left; exact ⟨rfl, trivial⟩
                    have HB38 := b38_of a0 b13 HB13.out hbad
                    clear hbad HBAD
                    rcases three with ⟨hb, hx⟩ | ⟨hb, hx⟩ | ⟨hb, hx, hml, e38⟩
                    all_goals subst hb
                    all_goals go_wp2_with (first | (go_at_call 12; refine (ends12 lst (by omega) false HES _).mono ?_; rintro e w' ⟨rfl, rfl⟩) | (go_at_call 13; refine (cont13 a0 (by omega) _ HB13 _).mono ?_; rintro e w' ⟨rfl, rfl⟩))
                    all_goals
                      refine (clone14 pd np cp ps _ (by omega) (sl_block hP (Below.refl _ _)) (sl_cells hP (Below.refl _ _))).mono ?_
                      rintro e w1 ⟨gP, rfl, hgP, hRP, hBP⟩
                      go_wp2_with fail
                      refine (clone14 qd nq cq qs _ (by omega) (sl_block hQ hBP) (sl_cells hQ hBP)).mono ?_
                      rintro e w2 ⟨gQ, rfl, hgQ, hRQ, hBQ⟩
                      have hRP2 := hRP.old hBQ hRP.lt
                      obtain ⟨Z2, hZ2⟩ : ∃ Z2, Z2 = w2.heap.size := ⟨_, rfl⟩
                      have hZ2' : Z2 ≤ w2.heap.size := by omega
                      have hgP2 : gP < Z2 := by have := hRP2.lt; omega
                      have hgQ2 : gQ < Z2 := by have := hRQ.lt; omega
                      have HB2 : Hid (Below Z w' w2 ∧ Z ≤ Z2) := ⟨by rw [HZ.out]; exact hBP.trans (hBQ.mono (by have := hBP.size; omega)), by have := HZ.out; have := hBP.size; have := hBQ.size; omega⟩
                      clear hZ2 hRP hBP hBQ hgP hgQ
                      go_wp2_with (at_make; refine wpList_mk0S _ rfl _ _ rfl Z2 _ (np + nq) rfl rfl (by omega) (by omega) hZ2' ?_; intro gA capA w3 hownA hbelA hzA)
                      go_loopw [11, 12] (fun v i wr => ∃ (k g cap : Nat), k ≤ np ∧ i = .int .i64 k ∧ v = .slice (some ⟨g, 0, none⟩) k cap ∧ wr.ownsRow Z2 9 1 (.slice (some ⟨g, 0, none⟩) k cap) k (sv (ps.take k)) ∧ Below Z2 w2 wr ∧ Z2 ≤ wr.heap.size) (fun _ i _ => np - (intOf i).toNat)
                      case atStart => exact ⟨0, gA, capA, by omega, rfl, rfl, by simpa using hownA, hbelA, hzA⟩
                      case round =>
                        clear hownA hbelA hzA
                        obtain ⟨i, g, cap, hi, rfl, rfl, hown, hbel, hz⟩ := hrel
                        by_cases hil : i < np
                        · obtain ⟨s, hss⟩ : ∃ s, s = ps.getD i ByteArray.empty := ⟨_, rfl⟩
                          have hc : wr.cell? ⟨gP, i, none⟩ = some (.string s) := by rw [hbel.cell (p := ⟨gP, i, none⟩) hgP2, hss]; exact hRP2.cell hil
                          have HT : Hid (ps.take (i + 1) = ps.take i ++ [s]) := by
                            have hk : i < ps.length := by have := hP.len; omega
                            show _ = _
                            rw [List.take_succ_eq_append_getElem hk, hss, List.getD_eq_getElem?_getD, List.getElem?_eq_getElem hk]; rfl
                          clear hss
                          go_wp2_with (at_builtin; refine wpList_pushS _ s rfl (.tmp 129) (.tmp 134) rfl Z2 _ _ _ rfl hown rfl (by omega) hz ?_; intro g2 cap2 w4 hown4 hbel4 hz4)
                          go_roundw
                          case rel => exact ⟨i + 1, g2, cap2, by omega, by go_num, rfl, by rw [HT.out]; exact hown4, hbel.trans hbel4, hz4⟩
                          case measure => simp [intOf]; omega
                        · have ei : i = np := by omega
                          have hown0 : Hid (wr.ownsRow Z2 9 1 (.slice (some ⟨g, 0, none⟩) i cap) i (sv (ps ++ qs.take 0))) := by
                            have := hown
                            rw [List.take_of_length_le (by have := hP.len; omega)] at this
                            show wr.ownsRow Z2 9 1 (.slice (some ⟨g, 0, none⟩) i cap) i (sv (ps ++ qs.take 0))
                            simpa using this
                          have HI : Hid (i = np) := ei
                          clear ei hown
                          go_wp2
                          go_loopw [11, 13] (fun v x wr => ∃ (k g cap : Nat), k ≤ nq ∧ x = .int .i64 k ∧ v = .slice (some ⟨g, 0, none⟩) (i + k) cap ∧ wr.ownsRow Z2 9 1 (.slice (some ⟨g, 0, none⟩) (i + k) cap) (i + k) (sv (ps ++ qs.take k)) ∧ Below Z2 w2 wr ∧ Z2 ≤ wr.heap.size) (fun _ x _ => nq - (intOf x).toNat)
                          case atStart => exact ⟨0, g, cap, by omega, rfl, rfl, hown0.out, hbel, hz⟩
                          case round =>
                            clear hown0 hbel hz
                            obtain ⟨x, g, cap, hx, rfl, rfl, hown, hbel, hz⟩ := hrel
                            by_cases hxl : x < nq
                            · obtain ⟨s, hss⟩ : ∃ s, s = qs.getD x ByteArray.empty := ⟨_, rfl⟩
                              have hc : wr.cell? ⟨gQ, x, none⟩ = some (.string s) := by rw [hbel.cell (p := ⟨gQ, x, none⟩) hgQ2, hss]; exact hRQ.cell hxl
                              have HT : Hid (qs.take (x + 1) = qs.take x ++ [s]) := by
                                have hk : x < qs.length := by have := hQ.len; omega
                                show _ = _
                                rw [List.take_succ_eq_append_getElem hk, hss, List.getD_eq_getElem?_getD, List.getElem?_eq_getElem hk]; rfl
                              clear hss
                              go_wp2_with (at_builtin; refine wpList_pushS _ s rfl (.tmp 142) (.tmp 147) rfl Z2 _ _ _ rfl hown rfl (by omega) hz ?_; intro g2 cap2 w4 hown4 hbel4 hz4)
                              go_roundw
                              case rel => exact ⟨x + 1, g2, cap2, by omega, by go_num, by rfl, by rw [HT.out, ← List.append_assoc]; exact hown4, hbel.trans hbel4, hz4⟩
                              case measure => simp [intOf]; omega
                            · go_wp2_with fail
                              have hx2 : x = nq := by omega
                              have hRA0 := (rowS_of_own hown).1
                              have hcapA := own_cap hown
                              rw [List.take_of_length_le (by have := hQ.len; omega)] at hRA0
                              have hRPw := hRP2.old hbel hgP2
                              have hRQw := hRQ.old hbel hgQ2
                              have hsp : sumz ps ≤ 1048576 := by have := HA.out; omega
                              have hsq : sumz qs ≤ 1048576 := by have := HA.out; omega
                              have hpl : Hid (ps.length = np) := hP.len
                              have hql : Hid (qs.length = nq) := hQ.len
                              have hal : Hid ((ps ++ qs).length = i + x) := by show _ = _; rw [List.length_append]; have := hpl.out; have := hql.out; have := HI.out; omega
                              have hsa : sumz (ps ++ qs) ≤ 1048576 := by have := HA.out; unfold sumz at *; rw [List.map_append, List.sum_append]; omega
                              have hxn : i + x ≤ 131072 := by have := HI.out; omega
                              have HX2 : Hid (x = nq) := hx2
                              have lp := amp_small ps hsp (by have := hpl.out; omega)
                              have lq := amp_small qs hsq (by have := hql.out; omega)
                              have la := amp_small (ps ++ qs) hsa (by have := hal.out; omega)
                              clear hown hx2
                              refine (zzjoin15 a0 (by omega) gP 0 np np ps _ (hRPw.cells hpl.out) hRPw.lt hpl (by omega) (Nat.le_refl _) lp).mono ?_
                              rintro e w6 ⟨r1, rfl, hr1, hB6⟩
                              have hr1s := J_small r1 a0 ps hr1 (by omega) hsp (by have := hpl.out; omega)
                              have hRQ6 := hRQw.old hB6 hRQw.lt
                              have hRA6 := hRA0.old hB6 hRA0.lt
                              go_wp2_with fail
                              refine (zzjoin15 r1 (by omega) gQ 0 nq nq qs _ (hRQ6.cells hql.out) hRQ6.lt hql (by omega) (Nat.le_refl _) lq).mono ?_
                              rintro e w7 ⟨r2, rfl, hr2, hB7⟩
                              have hRA7 := hRA6.old hB7 hRA6.lt
                              go_wp2_with fail
                              refine (zzjoin15 a0 (by omega) g 0 (i + x) cap (ps ++ qs) _ (hRA7.cells hal.out) hRA7.lt hal (by omega) hcapA la).mono ?_
                              rintro e w8 ⟨r3, rfl, hr3, hB8⟩
                              have hr3s := J_small r3 a0 (ps ++ qs) hr3 (by omega) hsa (by have := hal.out; omega)
                              have hRA8 := hRA7.old hB8 hRA7.lt
                              go_wp2_with fail
                              refine (amp16 g (i + x) cap cap y (ps ++ qs) hal.out _ (by omega) (by omega) hsa hRA8).mono ?_
                              rintro e w9 ⟨r4, rfl, hr4, hB9⟩
                              obtain ⟨hEq, hF1, hF2, hF3, hF4, d, hF5, hF6⟩ := fin_facts a0 r1 r2 r3 r4 lst ps qs np hp0 hpl.out (fun e => by have := hql.out; rw [e] at this; simp at this; omega) HLS.out HL0.out HES.out HB38.out hr1.out hr2.out hr3.out hr4.out
                              have hEqB : (r2.toList == r3.toList) = true := by rw [hEq]; simp
                              have HD : Hid (r4.size + d = r3.size) := hF5
                              have HBe : Hid (Below Z w' w9) := by
                                have := HB2.out
                                have s1 := hbel.size
                                have s6 := hB6.size
                                have s7 := hB7.size
                                have s8 := hB8.size
                                exact ((((this.1.trans (hbel.mono this.2)).trans (hB6.mono (by omega))).trans (hB7.mono (by omega))).trans (hB8.mono (by omega))).trans (hB9.mono (by omega))
                              clear hEq hF5 hRA0 hRPw hRQw hRQ6 hRA6 hRA7 hRA8 hB6 hB7 hB8 hB9 hr1 hr2 hr3 hr4 hbel
                              go_wp2_with (first | (go_at_call 17; refine (pre17 r3 a0 (by omega) hF1 hF2 _).mono ?_; rintro e wx ⟨rfl, n1, rfl⟩) | (go_at_call 18; refine (suf18 r3 r4 (by omega) d HD.out hF6 _).mono ?_; rintro e wy ⟨rfl, n2, rfl⟩))
                              go_ret
                              refine ⟨ret_bool (decide_eq_true (by omega)), ?_⟩
                              rw [← HZ.out]
                              exact below_drewN HBe.out _
                · have HES : Hid (endsSep lst = true) := hes
                  clear hes
                  go_wp2_with (go_at_call 12; refine (ends12 lst (by omega) true HES _).mono ?_; rintro e w' ⟨rfl, rfl⟩)
                  go_ret
                  exact ⟨rfl, Below.refl _ _⟩

end fnJoinInStepsAgreesWithJoinAtOnce
end Go.Proofs.Qxb6605302a
