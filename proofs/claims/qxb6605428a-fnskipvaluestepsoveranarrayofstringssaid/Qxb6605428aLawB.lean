import Derived.Test.Qxb6605428aArr
namespace Go.Proofs.Qxb6605428a
open Go.RowKit
set_option linter.unusedVariables false

theorem add_block (ad : Addr) (j : Nat) : (ad.add j).block = ad.block := by
  unfold Addr.add; split <;> rfl

theorem cells_later {w w1 : World} {ad : Addr} {n : Nat} {ss : List ByteArray} (h : Hid (∀ j, j < n → w.cell? (ad.add j) = some (.string (ss.getD j ByteArray.empty)))) (had : Hid (n ≠ 0 → ad.block < w.heap.size)) (hB : Below w.heap.size w w1) :
    ∀ j, j < n → w1.cell? (ad.add j) = some (.string (ss.getD j ByteArray.empty)) := fun j hj => by
  rw [hB.cell (p := ad.add j) (by rw [add_block]; exact had.out (by omega))]
  exact h.out j hj

theorem St_mk {w w2 w5 w6 w7 : World} {Z gI gS gE n : Nat} {ss : List ByteArray} {p l : List UInt8} {m : Nat} {v : Value} {cS cE : Array Value} (hb2 : Below Z w w2) (hI : Hid (w2.heap[gI]? = some (Obj.cells (ss.map Value.string).toArray 9 (0, 0)))) (h5 : Stp Z w2 w5) (hown : w5.ownsRow Z 5 1 v m (bc l))
    (gs : Hid (gS = w5.heap.size)) (cs : Hid (cS.size = n)) (rs : Hid (w6.heap[gS]? = some (Obj.cells cS 3 (0, 0)))) (b6 : Below w5.heap.size w5 w6)
    (ge : Hid (gE = w6.heap.size)) (ce : Hid (cE.size = n)) (re : Hid (w7.heap[gE]? = some (Obj.cells cE 3 (0, 0)))) (b7 : Below w6.heap.size w6 w7) (l' : List UInt8) (hl : l = l') : St w Z gI gS gE n ss p l' 0 0 m v w7 := by
  subst hl
  have hgs := gs.out; have hge := ge.out
  have s1 := b6.size; have s2 := b7.size; have s3 := heap_lt rs.out
  have s4 := h5.sz
  refine ⟨own_old (own_old hown b6) b7, .inr ?_, ?_, RowI.new _ ce re, by omega, by omega, by omega, ?_, by omega⟩
  · have k1 := h5.keep _ _ _ _ (by decide) hI.out
    have k2 := (stp_old (base := 0) (Nat.zero_le _) b6).keep _ _ _ _ (by decide) k1
    exact (stp_old (base := 0) (Nat.zero_le _) b7).keep _ _ _ _ (by decide) k2
  · exact (RowI.new _ cs rs).stp (stp_old (base := 0) (Nat.zero_le _) b7)
  · exact ((hb2.trans h5.bel).trans (b6.mono (by omega))).trans (b7.mono (by omega))

theorem St.neI {w0 : World} {Z gI gS gE n : Nat} {ss : List ByteArray} {p l : List UInt8} {ks ke m : Nat} {v : Value} {wr : World} (h : St w0 Z gI gS gE n ss p l ks ke m v wr) (hn : n ≠ 0) : ¬ gI = gS := by
  intro e
  subst e
  obtain ⟨cur, _, _, h3⟩ := h.st
  rcases h.it with h0 | h0
  · exact hn h0
  · rw [h3] at h0; simp at h0

theorem St.cast {w0 : World} {Z gI gS gE n : Nat} {ss : List ByteArray} {p l l' : List UInt8} {ks ke m : Nat} {v : Value} {wr : World} (h : St w0 Z gI gS gE n ss p l ks ke m v wr) (e : l = l') : St w0 Z gI gS gE n ss p l' ks ke m v wr := by
  subst e; exact h

theorem St.len {w0 : World} {Z gI gS gE n : Nat} {ss : List ByteArray} {p l : List UInt8} {ks ke m : Nat} {v : Value} {wr : World} (h : St w0 Z gI gS gE n ss p l ks ke m v wr) : l.length = m := own_len h.own

theorem m_bound (p : List UInt8) (ss : List ByteArray) (k n m z : Nat) (hl : ss.length = n) (hk : k < n) (h : m = (p ++ 91 :: txt ss (k + 1)).length) (hp : p.length ≤ 262144) (hn : n ≤ 16384) (hz : sumz ss ≤ 1048576) : m ≤ 16777216 := by
  have h1 := txt_le ss (k + 1) (by omega)
  have h2 := sumz_le ss (k + 1)
  simp at h
  omega

theorem raw_mk (a0 a2 : ByteArray) (ss : List ByteArray) (n m : Nat) (raw : ByteArray) (hl : Hid (ss.length = n)) (hm : Hid ((a0.data.toList ++ 91 :: txt ss n).length = m)) (hraw : Hid (raw.data.toList = a0.data.toList ++ 91 :: txt ss n ++ [93] ++ a2.data.toList)) (hrs : raw.size = m + 1 + a2.size) (hb : m + 1 + a2.size ≤ 1099511627776) :
    Raw raw a0.data.toList ss n :=
  raw_arr raw a0.data.toList a2.data.toList ss n hl.out (by rw [hraw.out]; simp) (by omega)

theorem raw_first (a0 : ByteArray) (ss : List ByteArray) (n m : Nat) (raw : ByteArray) (hm : Hid ((a0.data.toList ++ 91 :: txt ss n).length = m)) (h : Raw raw a0.data.toList ss n) :
    raw.size ≤ 1099511627776 ∧ a0.size < raw.size ∧ Hid (by8 raw a0.size = 91) ∧ Hid (∃ f, raw.size < f + a0.size ∧ Pl.valGo f raw.data.toList a0.size 0 = (m : Int) + 1) := by
  have e : a0.data.toList.length = a0.size := size_list a0
  have h1 := h.op; have h2 := h.op8; have h3 := h.all
  rw [e] at h1 h2 h3
  refine ⟨h.sz, h1, h2, ?_⟩
  obtain ⟨f, f1, f2⟩ := h3
  refine ⟨f, f1, f2.trans ?_⟩
  have := hm.out
  simp at this
  omega

theorem nil_bel {Z : Nat} {w w3 w4 w5 w6 w7 : World} (h3 : Stp Z w w3) (h4 : Stp Z w3 w4) (h5 : Stp Z w4 w5) (b6 : Below w5.heap.size w5 w6) (b7 : Below w6.heap.size w6 w7) : Below Z w w7 := by
  have := h5.sz; have := b6.size
  exact (((h3.bel.trans h4.bel).trans h5.bel).trans (b6.mono (by omega))).trans (b7.mono (by omega))

theorem raw_nil (a0 a2 raw : ByteArray) (hraw : Hid (raw.data.toList = [] ++ a0.data.toList ++ [91] ++ [93] ++ a2.data.toList)) (hrs : raw.size = a0.size + 1 + 1 + a2.size) (hb : a0.size + 1 + 1 + a2.size ≤ 1099511627776) :
    raw.size ≤ 1099511627776 ∧ a0.size < raw.size ∧ Hid (by8 raw a0.size = 91) ∧ Hid (∃ f, raw.size < f + a0.size ∧ Pl.valGo f raw.data.toList a0.size 0 = (a0.size : Int) + 1 + 1) := by
  have e0 : txt [] 0 = [] := rfl
  have hm : Hid ((a0.data.toList ++ 91 :: txt [] 0).length = a0.size + 1) := by
    show _ = _
    rw [e0, List.length_append, size_list]; rfl
  have hR := raw_mk a0 a2 [] 0 (a0.size + 1) raw rfl hm (by show _ = _; rw [hraw.out, e0]; simp) hrs hb
  exact raw_first a0 [] 0 (a0.size + 1) raw hm hR

namespace fnSkipValueStepsOverAnArrayOfStrings

set_option maxRecDepth 100000 in
set_option maxHeartbeats 2000000 in
theorem walk_main (a0 a2 : ByteArray) (ad : Addr) (n cap : Nat) (ss : List ByteArray) (hlen : ss.length = n) (w : World) (w0 : a0.size ≤ maxLen) (w2 : a2.size ≤ maxLen) (hm : n ≤ maxLen)
    (hcell : ∀ j, j < n → w.cell? (ad.add j) = some (.string (ss.getD j ByteArray.empty))) (hsz : ∀ j, (ss.getD j ByteArray.empty).size ≤ maxLen) 
    (had : n ≠ 0 → ad.block < w.heap.size)
    (hall : a0.size + n + sumz ss + a2.size ≤ 1048576) (c0 : a0.size ≤ 262144) (c2 : a2.size ≤ 262144) (cn : n ≤ 16384) :
    Calls Try.prog 6 #[.string a0, .slice (some ad) n cap, .string a2] w fun e w' => e = .returned (.bool true) ∧ Below w.heap.size w w' := by
  have hb15 : Hid (true = decide (a0.size + n + sumz ss + a2.size ≤ 1048576)) := by show true = _; simp [hall]
  have HL : Hid (ss.length = n) := hlen
  have HA : Hid (a0.size + n + sumz ss + a2.size ≤ 1048576) := hall
  have HC : Hid (∀ j, j < n → w.cell? (ad.add j) = some (.string (ss.getD j ByteArray.empty))) := hcell
  have HSZ : Hid (∀ j, (ss.getD j ByteArray.empty).size ≤ maxLen) := hsz
  obtain ⟨Z, hZ⟩ : ∃ Z, Z = w.heap.size := ⟨_, rfl⟩
  have hZ' : Z ≤ w.heap.size := by omega
  have HZ : Hid (Z = w.heap.size) := hZ
  have HAD : Hid (n ≠ 0 → ad.block < w.heap.size) := had
  have hnn := fun (wx : World) (a : Option Addr) (n c n' c' : Nat) => run_neq_slice_nil_any (P := Try.prog) wx 27 9 a n c n' c' Try.underlying27
  clear hZ hall hcell hsz had hm hlen
  go_enter Try.func6, Try.ntmps6
  go_wp2_with (go_at_call 15; refine (bytes15_some a0 a2 ad n cap ss HL.out _ w0 w2 (by unfold maxLen; omega) HC.out HSZ.out true hb15).mono ?_; rintro e w' ⟨rfl, rfl⟩)
  go_loop [7, 8] (fun t7 t8 => ∃ k z : Nat, k ≤ n ∧ t8 = .int .i64 k ∧ t7 = .int .i64 z ∧ z ≤ 262144 ∧ Hid (z = 16 * k + sumz (ss.take k))) (fun _ t8 => n - (intOf t8).toNat)
  case atStart => exact ⟨0, 0, by omega, rfl, by go_num, by omega, by simp [sumz, Hid]⟩
  case round =>
    obtain ⟨k, z, hk, rfl, rfl, hz, HZk⟩ := hrel
    by_cases hlt : k < n
    · have hc := HC.out k hlt
      obtain ⟨s, hss⟩ : ∃ s, s = ss.getD k ByteArray.empty := ⟨_, rfl⟩
      rw [← hss] at hc
      have H1 : Hid (sumz (ss.take (k + 1)) = sumz (ss.take k) + s.size) := by have := sumz_take ss k (by have := HL.out; omega); rw [← hss] at this; exact this
      have hs : s.size ≤ 1048576 := by
        have := HA.out; have := sumz_le ss (k + 1); have := H1.out; omega
      clear hss hnn
      go_wp2
      · go_ret
        exact ⟨rfl, Below.refl _ _⟩
      · go_round
        case rel => exact ⟨k + 1, z + (16 + s.size), by omega, by go_num, by go_num, by omega, by have := HZk.out; have := H1.out; show _ = _; omega⟩
        case measure => simp [intOf]; omega
    · have H3 : Hid (z = 16 * n + sumz ss) := by
        have := HZk.out; rw [List.take_of_length_le (by have := HL.out; omega)] at this; have e : k = n := by omega
        rw [e] at this; exact this
      clear HZk
      go_wp2_with (first | (at_make; refine wpList_mkStr _ rfl _ _ rfl _ n rfl rfl rfl (by omega) ?_; intro gI curI w1 hgI hcI hrI hB1; have hzI : Z ≤ gI := (by rw [hgI.out]; exact hZ')) | (refine wpList_cpStr _ rfl (.tmp 57) (.tmp 58) rfl gI n ad cap rfl rfl curI hcI hrI ss HL.out (cells_later HC HAD hB1) Z hzI ?_; clear hrI; intro w2 hrI2 hB2; have hz2 : Z ≤ w2.heap.size := (by have := hB2.size; have := hB1.size; omega); have hbel2 := (hB1.mono hZ').trans hB2) | (at_make; refine wpList_mk0 _ rfl _ _ rfl Z _ (a0.size + 2 * z + a2.size + 2) rfl rfl (by omega) (by omega) hz2 ?_; intro ao3 cap3 w3 hown3 hstp3 hB3; have hz3 := hstp3.sz) | (at_builtin; refine wpList_pushs _ rfl (.tmp 71) (.tmp 72) rfl Z _ 0 [] rfl hown3 a0 rfl (by omega) hz3 a0.size (by omega) ?_; intro ao4 cap4 w4 hown4 hstp4; have hz4 := hstp4.sz) | (at_builtin; refine wpList_push _ 91 91 rfl rfl (.tmp 76) (.tmp 77) rfl Z _ _ _ rfl hown4 rfl (by omega) hz4 ?_; intro ao5 cap5 w5 hown5 hstp5) | (at_make; refine wpList_mkInt _ rfl (.tmp 80) (.tmp 80) rfl _ n rfl rfl rfl (by omega) ?_; intro gS curS w6 hgS hcS hrS hB6) | (at_make; refine wpList_mkInt _ rfl (.tmp 83) (.tmp 83) rfl _ n rfl rfl rfl (by omega) ?_; intro gE curE w7 hgE hcE hrE hB7; have hSt : St _ Z gI gS gE n ss a0.data.toList (a0.data.toList ++ 91 :: txt ss 0) 0 0 (a0.size + 1) _ w7 := (St_mk hbel2 hrI2 ((hstp3.trans hstp4).trans hstp5) hown5 hgS hcS hrS hB6 hgE hcE hrE hB7 _ (by simp [txt, Pl.body]))))
      clear hown3 hown4 hown5 hstp3 hstp4 hstp5 hB1 hB2 hB3 hB6 hB7 hrI2 hrS hrE hcI hcS hcE hgI hgS hgE hz3 hz4 hz2 hbel2 HC HAD hnn hb15
      go_loopw [10, 14] (fun v i wr => ∃ (k m : Nat) (ao : Option Addr) (cap : Nat), k ≤ n ∧ i = .int .i64 k ∧ v = .slice ao m cap ∧ m ≤ 16777216 ∧ St w' Z gI gS gE n ss a0.data.toList (a0.data.toList ++ 91 :: txt ss k) k k m (.slice ao m cap) wr) (fun _ i _ => n - (intOf i).toNat)
      case atStart => exact ⟨0, a0.size + 1, _, _, by omega, rfl, rfl, by omega, hSt⟩
      case round =>
        clear hSt
        obtain ⟨k, m, ao, cap, hk, rfl, rfl, hm, hSt⟩ := hrel
        by_cases hlt : k < n
        · obtain ⟨s, hss⟩ : ∃ s, s = ss.getD k ByteArray.empty := ⟨_, rfl⟩
          have hsz : s.size ≤ 1048576 := by
            have := HA.out; have := sumz_le ss (k + 1); have := sumz_take ss k (by have := HL.out; omega); rw [← hss] at this; omega
          have hit := hSt.item HL.out hlt
          rw [← hss] at hit
          have hne : ¬ gI = gS := hSt.neI (by omega)
          have hne2 : ¬ gS = gI := fun e => hne e.symm
          have hT := txt_succ ss k (by have := HL.out; omega)
          rw [← hss] at hT
          have HT : Hid (txt ss (k + 1) = txt ss k ++ (if k = 0 then [] else [44]) ++ Pl.quoted (toL s)) := hT
          have hml := hSt.len
          have hp : a0.data.toList.length = a0.size := size_list a0
          have hzz : sumz ss ≤ 1048576 := by have := HA.out; omega
          by_cases hk0 : k = 0
          · obtain ⟨xS, hcS⟩ := hSt.st.has hlt
            have hfS := hSt.st.free k
            have hk0' : ¬ (0 : Int) < (k : Int) := by omega
            have hm1 : Hid ((m : Int) = (Sx a0.data.toList ss k : Nat)) := by
              show (m : Int) = _
              unfold Sx; rw [if_pos hk0]; rw [← hml]; simp; omega
            have hSt1 := hSt.storeS hlt (m : Int) hm1.out
            obtain ⟨m2, hm2⟩ : ∃ m2, m2 = m + (Pl.quoted s.data.toList).length := ⟨_, rfl⟩
            have HM2 : Hid (m2 = m + (Pl.quoted s.data.toList).length) := hm2
            have HTe : Hid (a0.data.toList ++ 91 :: txt ss k ++ Pl.quoted s.data.toList = a0.data.toList ++ 91 :: txt ss (k + 1)) := by
              show _ = _
              rw [hT, if_pos hk0]; simp [toL]
            have hE2 : Hid ((m2 : Int) = (Ex a0.data.toList ss k : Nat)) := by
              show (m2 : Int) = _
              have := congrArg List.length HTe.out
              unfold Ex; simp at this hml; omega
            have hm2b : m2 ≤ 16777216 := m_bound a0.data.toList ss k n m2 0 HL.out hlt (by rw [← HTe.out, hm2, ← hml]; simp; omega) (by omega) (by omega) hzz
            clear hm2 hss hT hk0 hml hp
            have hz1 := hSt1.sz
            go_wp2_with (go_at_call 11; refine (appendQuoted_any s hsz Z _ _ _ _ hSt1.own (by omega) hz1 m2 HM2).mono ?_; rintro e w3 ⟨ao3, cap3, rfl, hown3, hstp3⟩; have hSt3 := hSt1.step hstp3 hown3; obtain ⟨xE, hcE⟩ := hSt3.en.has hlt; have hfE := hSt3.en.free k)
            go_roundw
            case rel => exact ⟨k + 1, m2, ao3, cap3, by omega, by go_num, rfl, hm2b, (hSt3.storeE hlt (m2 : Int) hE2.out).cast HTe.out⟩
            case measure => simp [intOf]; omega
          · have hk0' : (0 : Int) < (k : Int) := by omega
            have hm1 : Hid (((m + 1 : Nat) : Int) = (Sx a0.data.toList ss k : Nat)) := by
              show ((m + 1 : Nat) : Int) = _
              unfold Sx; rw [if_neg hk0]; rw [← hml]; simp; omega
            have hm1' : Hid ((m : Int) + 1 = (Sx a0.data.toList ss k : Nat)) := by
              have := hm1.out; show (m : Int) + 1 = _; omega
            obtain ⟨m2, hm2⟩ : ∃ m2, m2 = m + 1 + (Pl.quoted s.data.toList).length := ⟨_, rfl⟩
            have HM2 : Hid (m2 = m + 1 + (Pl.quoted s.data.toList).length) := hm2
            have HTe : Hid (a0.data.toList ++ 91 :: txt ss k ++ [44] ++ Pl.quoted s.data.toList = a0.data.toList ++ 91 :: txt ss (k + 1)) := by
              show _ = _
              rw [hT, if_neg hk0]; simp [toL]
            have hE2 : Hid ((m2 : Int) = (Ex a0.data.toList ss k : Nat)) := by
              show (m2 : Int) = _
              have := congrArg List.length HTe.out
              unfold Ex; simp at this hml; omega
            have hm2b : m2 ≤ 16777216 := m_bound a0.data.toList ss k n m2 0 HL.out hlt (by rw [← HTe.out, hm2, ← hml]; simp; omega) (by omega) (by omega) hzz
            have HSS : Hid (s = ss.getD k ByteArray.empty) := hss
            clear hm2 hss hT hk0 hml hp hit
            have hz0 := hSt.sz
            go_wp2_with (first | (at_builtin; refine wpList_push _ 44 44 rfl rfl (.tmp 93) (.tmp 94) rfl Z _ _ _ rfl hSt.own rfl (by omega) hz0 ?_; intro aoP capP wP hownP hstpP; have hStP := hSt.step hstpP hownP; obtain ⟨xS, hcS⟩ := hStP.st.has hlt; have hfS := hStP.st.free k; have hSt1 := hStP.storeS hlt ((m : Int) + 1) hm1'.out; have hz1 := hSt1.sz; have hit := hStP.item HL.out hlt; rw [← HSS.out] at hit) | (go_at_call 11; refine (appendQuoted_any s hsz Z _ _ _ _ hSt1.own (by omega) hz1 m2 HM2).mono ?_; rintro e w3 ⟨ao3, cap3, rfl, hown3, hstp3⟩; have hSt3 := hSt1.step hstp3 hown3; obtain ⟨xE, hcE⟩ := hSt3.en.has hlt; have hfE := hSt3.en.free k))
            go_roundw
            case rel => exact ⟨k + 1, m2, ao3, cap3, by omega, by go_num, rfl, hm2b, (hSt3.storeE hlt (m2 : Int) hE2.out).cast HTe.out⟩
            case measure => simp [intOf]; omega
        · have hkn : k = n := by omega
          have hSt0 := hSt.cast (l' := a0.data.toList ++ 91 :: txt ss n) (by rw [hkn])
          have hS0 : Hid (∀ j, j < n → RowI wr gS n k (Sx a0.data.toList ss) → True) := fun _ _ _ => trivial
          have hml := hSt0.len
          have HML : Hid ((a0.data.toList ++ 91 :: txt ss n).length = m) := hml
          have HKN : Hid (k = n) := hkn
          clear hml hkn hSt hS0
          have hz0 := hSt0.sz
          go_wp2_with (first | (at_builtin; refine wpList_push _ 93 93 rfl rfl (.tmp 112) (.tmp 113) rfl Z _ _ _ rfl hSt0.own rfl (by omega) hz0 ?_; intro aoP capP wP hownP hstpP; have hStP := hSt0.step hstpP hownP; have hzP := hStP.sz) | (at_builtin; refine wpList_pushs _ rfl (.tmp 117) (.tmp 118) rfl Z _ _ _ rfl hStP.own a2 rfl (by omega) hzP (m + 1 + a2.size) rfl ?_; intro aoQ capQ wQ hownQ hstpQ; have hStQ := hStP.step hstpQ hownQ; obtain ⟨raw, hraw, hrs, hconv⟩ := own_string hownQ; have hR := raw_mk a0 a2 ss n m raw HL HML hraw hrs (by omega); obtain ⟨hR1, hR2, hR3, hR4⟩ := raw_first a0 ss n m raw HML hR; clear hrs) | (go_at_call 12; refine (skipValue_arr raw a0.size hR1 hR2 hR3.out _ hR4 _).mono ?_; rintro e wR ⟨rfl, rfl⟩))
          have HB : Hid (Below Z w' wR) := hStQ.bel
          have HRS : Hid (∀ j, j < n → wR.cell? ⟨gS, j, none⟩ = some (.int .i64 (Sx a0.data.toList ss j : Nat))) := fun j hj => hStQ.st.cell (by rw [HKN.out]; exact hj)
          have HRE : Hid (∀ j, j < n → wR.cell? ⟨gE, j, none⟩ = some (.int .i64 (Ex a0.data.toList ss j : Nat))) := fun j hj => hStQ.en.cell (by rw [HKN.out]; exact hj)
          clear hStQ hStP hSt0 hownP hownQ hstpP hstpQ hconv hR4 hR3 hR2 hraw
          go_loopw [17] (fun i wr => ∃ (k q : Nat), k ≤ n ∧ i = .int .i64 k ∧ wr = wR.drewN q) (fun i _ => n - (intOf i).toNat)
          case atStart => exact ⟨0, 0, by omega, rfl, rfl⟩
          case round =>
            obtain ⟨k, q, hk, rfl, rfl⟩ := hrel
            by_cases hlt : k < n
            · obtain ⟨sK, hsK⟩ : ∃ sK, sK = Sx a0.data.toList ss k := ⟨_, rfl⟩
              obtain ⟨eK, heK⟩ : ∃ eK, eK = Ex a0.data.toList ss k := ⟨_, rfl⟩
              have hcS := HRS.out k hlt
              have hcE := HRE.out k hlt
              have h1 := hR.lt k hlt
              have h2 : Hid (by8 raw (Sx a0.data.toList ss k) = 34) := hR.q k hlt
              have h3 : Hid (Pl.skipStr raw.data.toList (Sx a0.data.toList ss k) = (Ex a0.data.toList ss k : Int)) := hR.skip k hlt
              have h4 := hR.elt k hlt
              have h5 : Hid (by8 raw (Ex a0.data.toList ss k) = 44 ∨ by8 raw (Ex a0.data.toList ss k) = 93) := hR.e8 k hlt
              rw [← hsK] at hcS h1 h2 h3
              rw [← heK] at hcE h3 h4 h5
              clear hsK heK
              have hli : (k : Int) < (n : Int) := by omega
              have hbn : ((eK : Int) != (eK : Int)) = false := by simp
              go_wp2_with fail
              go_quiet ((go_at_call 12; refine (skipValue_quote_r raw sK hR1 h1 h2 eK h3 _).mono ?_; rintro _ _ ⟨rfl, rfl⟩; exact ⟨rfl, _, rfl⟩))
              go_wp2_with fail
              go_quiet ((go_at_call 8; refine (skipString_r raw sK hR1 eK h3 _).mono ?_; rintro _ _ ⟨rfl, rfl⟩; exact ⟨rfl, _, rfl⟩))
              go_wp2_with (go_at_call 12; refine (skipValue_stop raw eK h4 h5.out _).mono ?_; rintro e wx ⟨rfl, rfl⟩)
              go_roundw
              case rel => exact ⟨k + 1, _, by omega, by go_num, rfl⟩
              case measure => simp [intOf]; omega
            · go_wp2
              go_ret
              refine ⟨rfl, ?_⟩
              rw [← HZ.out]
              exact below_drewN HB.out _


set_option maxRecDepth 100000 in
set_option maxHeartbeats 1000000 in
theorem walk_nil (a0 a2 : ByteArray) (w : World) (w0 : a0.size ≤ maxLen) (w2 : a2.size ≤ maxLen) (hall : a0.size + a2.size ≤ 1048576) (c0 : a0.size ≤ 262144) (c2 : a2.size ≤ 262144) :
    Calls Try.prog 6 #[.string a0, .slice none 0 0, .string a2] w fun e w' => e = .returned (.bool true) ∧ Below w.heap.size w w' := by
  have hb15 : Hid (true = decide (a0.size + a2.size ≤ 1048576)) := by show true = _; simp [hall]
  obtain ⟨Z, hZ⟩ : ∃ Z, Z = w.heap.size := ⟨_, rfl⟩
  have hZ' : Z ≤ w.heap.size := by omega
  have HZ : Hid (Z = w.heap.size) := hZ
  have hnn := fun (wx : World) (a : Option Addr) (n c n' c' : Nat) => run_neq_slice_nil_any (P := Try.prog) wx 27 9 a n c n' c' Try.underlying27
  clear hZ
  go_enter Try.func6, Try.ntmps6
  go_wp2_with (go_at_call 15; refine (bytes15_nil a0 a2 _ w0 w2 true hb15).mono ?_; rintro e w' ⟨rfl, rfl⟩)
  go_loop [7, 8] (fun t7 t8 => t8 = .int .i64 0 ∧ t7 = .int .i64 0) (fun _ t8 => 0)
  case atStart => exact ⟨rfl, rfl⟩
  case round =>
    obtain ⟨rfl, rfl⟩ := hrel
    go_wp2_with (first | (at_make; refine wpList_mk0 _ rfl _ _ rfl Z _ (a0.size + a2.size + 2) rfl rfl (by omega) (by omega) hZ' ?_; intro ao3 cap3 w3 hown3 hstp3 hB3; have hz3 := hstp3.sz) | (at_builtin; refine wpList_pushs _ rfl (.tmp 71) (.tmp 72) rfl Z _ 0 [] rfl hown3 a0 rfl (by omega) hz3 a0.size (by omega) ?_; intro ao4 cap4 w4 hown4 hstp4; have hz4 := hstp4.sz) | (at_builtin; refine wpList_push _ 91 91 rfl rfl (.tmp 76) (.tmp 77) rfl Z _ _ _ rfl hown4 rfl (by omega) hz4 ?_; intro ao5 cap5 w5 hown5 hstp5; have hz5 := hstp5.sz) | (at_make; refine wpList_mkInt _ rfl (.tmp 80) (.tmp 80) rfl _ 0 rfl rfl rfl (by omega) ?_; intro gS curS w6 hgS hcS hrS hB6) | (at_make; refine wpList_mkInt _ rfl (.tmp 83) (.tmp 83) rfl _ 0 rfl rfl rfl (by omega) ?_; intro gE curE w7 hgE hcE hrE hB7; have hown7 := own_old (own_old hown5 hB6) hB7; have hz7 : Z ≤ w7.heap.size := (by have := hB6.size; have := hB7.size; omega); have hbel7 : Below Z w' w7 := (nil_bel hstp3 hstp4 hstp5 hB6 hB7)))
    clear hown3 hown4 hown5 hstp3 hstp4 hstp5 hB3 hB6 hB7 hrS hrE hcS hcE hgS hgE hz3 hz4 hnn hb15
    go_loop [10, 14] (fun t10 t14 => t14 = .int .i64 0 ∧ t10 = .slice ao5 (a0.size + 1) cap5) (fun _ _ => 0)
    case atStart => exact ⟨rfl, rfl⟩
    case round =>
      obtain ⟨rfl, rfl⟩ := hrel
      go_wp2_with (first | (at_builtin; refine wpList_push _ 93 93 rfl rfl (.tmp 112) (.tmp 113) rfl Z _ _ _ rfl hown7 rfl (by omega) hz7 ?_; intro aoP capP wP hownP hstpP; have hzP := hstpP.sz) | (at_builtin; refine wpList_pushs _ rfl (.tmp 117) (.tmp 118) rfl Z _ _ _ rfl hownP a2 rfl (by omega) hzP (a0.size + 1 + 1 + a2.size) rfl ?_; intro aoQ capQ wQ hownQ hstpQ; obtain ⟨raw, hraw, hrs, hconv⟩ := own_string hownQ; obtain ⟨hR1, hR2, hR3, hR4⟩ := raw_nil a0 a2 raw hraw hrs (by omega); clear hrs) | (go_at_call 12; refine (skipValue_arr raw a0.size hR1 hR2 hR3.out ((a0.size : Int) + 1 + 1) hR4 _).mono ?_; rintro e wR ⟨rfl, rfl⟩))
      go_loop [17] (fun t17 => t17 = .int .i64 0) (fun _ => 0)
      case atStart => rfl
      case round =>
        subst hrel
        go_wp2
        go_ret
        refine ⟨rfl, ?_⟩
        rw [← HZ.out]
        exact (hbel7.trans hstpP.bel).trans hstpQ.bel


end fnSkipValueStepsOverAnArrayOfStrings
end Go.Proofs.Qxb6605428a
