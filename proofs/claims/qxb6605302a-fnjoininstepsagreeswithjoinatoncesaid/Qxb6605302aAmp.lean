import Derived.Test.Qxb6605302aCells
namespace Go.Proofs.Qxb6605302a
open Go.RowKit

theorem take_snoc (s : ByteArray) (k : Nat) (h : k < s.size) : s.data.toList.take (k + 1) = s.data.toList.take k ++ [by8 s k] := by
  have h' : k < s.data.toList.length := by rw [size_list]; exact h
  rw [List.take_succ_eq_append_getElem h', by8_list]

def txt (ss : List ByteArray) (k : Nat) : List UInt8 := Pl.amp ((ss.take k).map toL)
theorem txt_succ (ss : List ByteArray) (k : Nat) (hk : k < ss.length) : txt ss (k + 1) = txt ss k ++ (if k = 0 then [] else [38]) ++ toL (ss.getD k ByteArray.empty) := by
  have e : ss.getD k ByteArray.empty = ss[k] := by rw [List.getD_eq_getElem?_getD, List.getElem?_eq_getElem hk]; rfl
  unfold txt
  rw [List.take_succ_eq_append_getElem hk, List.map_append, List.map_cons, List.map_nil, Pl.amp_snoc, e]
  have : ((ss.take k).map toL = []) ↔ k = 0 := by
    rw [List.map_eq_nil_iff, List.take_eq_nil_iff]
    constructor
    · rintro (h | h)
      · exact h
      · subst h; simp at hk
    · exact .inl
  simp only [this]

def sumz (l : List ByteArray) : Nat := (l.map ByteArray.size).sum
theorem sumz_take (l : List ByteArray) (k : Nat) (h : k < l.length) : sumz (l.take (k + 1)) = sumz (l.take k) + (l.getD k ByteArray.empty).size := by
  have e : l.getD k ByteArray.empty = l[k] := by rw [List.getD_eq_getElem?_getD, List.getElem?_eq_getElem h]; rfl
  rw [List.take_succ_eq_append_getElem h, e]
  simp only [sumz, List.map_append, List.sum_append, List.map_cons, List.map_nil, List.sum_cons, List.sum_nil, Nat.add_zero]
theorem sumz_le (l : List ByteArray) (k : Nat) : sumz (l.take k) ≤ sumz l := by
  have e : sumz l = sumz (l.take k) + sumz (l.drop k) := by
    unfold sumz; rw [← List.sum_append, ← List.map_append, List.take_append_drop]
  omega
theorem txt_le (ss : List ByteArray) (k : Nat) : (txt ss k).length ≤ sumz ss + ss.length := by
  have h := Pl.amp_le ((ss.take k).map toL)
  have e : (((ss.take k).map toL).map List.length).sum = sumz (ss.take k) := by
    unfold sumz; rw [List.map_map]; congr 1
  rw [e] at h
  have := sumz_le ss k
  have h3 : (ss.take k).length ≤ ss.length := by rw [List.length_take]; omega
  simp only [List.length_map] at h
  unfold txt
  omega

set_option maxHeartbeats 1000000 in
/-- zzAmpJoinB1. -/
theorem amp16 (g n c0 cap t : Nat) (ss : List ByteArray) (hl : ss.length = n) (w : World) (hn : n ≤ 1048576) (ht : t ≤ 1048576) (hs : sumz ss ≤ 1048576) (hR : RowS w g c0 n ss) :
    Calls Try.prog 16 #[.slice (some ⟨g, 0, none⟩) n cap, .int .i64 t] w fun e w' => ∃ r : ByteArray, e = .returned (.string r) ∧ Hid (r.data.toList = Pl.amp (ss.map toL)) ∧ Below w.heap.size w w' := by
  have HL : Hid (ss.length = n) := hl
  have HS : Hid (sumz ss ≤ 1048576) := hs
  have hgl := hR.lt
  obtain ⟨Z, hZ⟩ : ∃ Z, Z = w.heap.size := ⟨_, rfl⟩
  have hZ' : Z ≤ w.heap.size := by omega
  have hgZ : g < Z := by omega
  have HZ : Hid (Z = w.heap.size) := hZ
  clear hZ hl hs hgl
  go_enter Try.func16, Try.ntmps16
  go_wp2_with (at_make; refine wpList_mk0 _ rfl _ _ rfl Z _ t rfl rfl rfl (by omega) hZ' ?_; intro ao1 cap1 w1 hown1 hbel1 hz1)
  go_loopw [5, 6] (fun v i wr => ∃ (k N : Nat) (ao : Option Addr) (cp : Nat), k ≤ n ∧ i = .int .i64 k ∧ v = .slice ao N cp ∧ N ≤ 16777216 ∧ wr.ownsRow Z 5 1 (.slice ao N cp) N (bc (txt ss k)) ∧ Below Z w wr ∧ Z ≤ wr.heap.size) (fun _ i _ => n - (intOf i).toNat)
  case atStart => exact ⟨0, 0, ao1, cap1, by omega, rfl, rfl, by omega, hown1, hbel1, hz1⟩
  case round =>
    clear hown1 hbel1 hz1
    obtain ⟨k, N, ao, cp, hk, rfl, rfl, hN, hown, hbel, hz⟩ := hrel
    by_cases hlt : k < n
    · obtain ⟨s, hss⟩ : ∃ s, s = ss.getD k ByteArray.empty := ⟨_, rfl⟩
      have hsz : s.size ≤ 1048576 := by
        have := HS.out; have := sumz_le ss (k + 1); have := sumz_take ss k (by have := HL.out; omega); rw [← hss] at this; omega
      have HSS : Hid (s = ss.getD k ByteArray.empty) := hss
      have HT := txt_succ ss k (by have := HL.out; omega)
      rw [← hss] at HT
      have HB : Hid ((txt ss (k + 1)).length ≤ 2097152) := by have := txt_le ss (k + 1); have := HS.out; have := HL.out; show _ ≤ _; omega
      have HNl : Hid ((txt ss k).length = N) := own_len hown
      by_cases hk0 : k = 0
      · have HTe : Hid (txt ss (k + 1) = txt ss k ++ s.data.toList) := by show _ = _; rw [HT, if_pos hk0]; simp [toL]
        have hk0' : ¬ (0 : Int) < (k : Int) := by omega
        have hc : wr.cell? ⟨g, k, none⟩ = some (.string s) := by rw [hbel.cell (p := ⟨g, k, none⟩) hgZ, hss]; exact hR.cell hlt
        clear HT hss hk0
        go_wp2
        go_loopw [5, 8] (fun v i wr => ∃ (q N : Nat) (ao : Option Addr) (cp : Nat), q ≤ s.size ∧ i = .int .i64 q ∧ v = .slice ao N cp ∧ N ≤ 16777216 ∧ wr.ownsRow Z 5 1 (.slice ao N cp) N (bc (txt ss k ++ s.data.toList.take q)) ∧ Below Z w wr ∧ Z ≤ wr.heap.size) (fun _ i _ => s.size - (intOf i).toNat)
        case atStart => exact ⟨0, N, ao, cp, by omega, rfl, rfl, by omega, by simpa using hown, hbel, hz⟩
        case round =>
          clear hown hbel hz hc hN
          obtain ⟨q, M, ao, cp, hq, rfl, rfl, hM, hown, hbel, hz⟩ := hrel
          by_cases hql : q < s.size
          · have H8 : Hid ((s[q].toNat : Int) = (by8 s q).toNat) := by show (s[q].toNat : Int) = _; rw [by8_eq s q hql]
            have HTK : Hid (s.data.toList.take (q + 1) = s.data.toList.take q ++ [by8 s q]) := take_snoc s q hql
            have hM2 : M + 1 ≤ 16777216 := by
              have h1 := own_len hown; have h2 := congrArg List.length HTe.out; have h3 := HB.out
              have h4 : (s.data.toList.take q).length ≤ q := List.length_take_le _ _
              have h5 := size_list s
              simp only [List.length_append] at h1 h2
              omega
            go_wp2_with (at_builtin; refine wpList_push _ _ (by8 s q) H8.out rfl (.tmp 32) (.tmp 36) rfl Z _ _ _ rfl hown rfl (by omega) hz ?_; intro ao2 cp2 w2 hown2 hbel2 hz2)
            go_roundw
            case rel => exact ⟨q + 1, M + 1, ao2, cp2, by omega, by go_num, rfl, hM2, by rw [HTK.out, ← List.append_assoc]; exact hown2, hbel.trans hbel2, hz2⟩
            case measure => simp [intOf]; omega
          · have HE : Hid (txt ss k ++ s.data.toList.take q = txt ss (k + 1)) := by
              show _ = _
              rw [HTe.out, List.take_of_length_le (by rw [size_list]; omega)]
            have hown3 : Hid (wr.ownsRow Z 5 1 (.slice ao M cp) M (bc (txt ss (k + 1)))) := by rw [← HE.out]; exact hown
            have hM3 : M ≤ 16777216 := hM
            go_wp2
            go_roundw
            case rel => exact ⟨k + 1, M, ao, cp, by omega, by go_num, rfl, hM3, hown3.out, hbel, hz⟩
            case measure => simp [intOf]; omega
      · have HTe : Hid (txt ss (k + 1) = txt ss k ++ [38] ++ s.data.toList) := by show _ = _; rw [HT, if_neg hk0]; simp [toL]
        have hk0' : (0 : Int) < (k : Int) := by omega
        have hNP : N + 1 ≤ 16777216 := by
          have h1 := HNl.out; have h2 := congrArg List.length HTe.out; have h3 := HB.out
          simp only [List.length_append] at h2
          have h4 : ([38] : List UInt8).length = 1 := rfl
          omega
        have hcs := fun (wx : World) (hbx : Below Z w wx) => show wx.cell? ⟨g, k, none⟩ = some (.string s) from by rw [hbx.cell (p := ⟨g, k, none⟩) hgZ, hss]; exact hR.cell hlt
        have HCS : Hid (∀ wx : World, Below Z w wx → wx.cell? ⟨g, k, none⟩ = some (.string s)) := hcs
        clear HT hss hk0 hcs
        go_wp2_with (at_builtin; refine wpList_push _ 38 38 rfl rfl (.tmp 19) (.tmp 20) rfl Z _ _ _ rfl hown rfl (by omega) hz ?_; intro aoP cpP wP hownP hbelP hzP; have hc := HCS.out wP (hbel.trans hbelP))
        go_loopw [5, 8] (fun v i wr => ∃ (q N : Nat) (ao : Option Addr) (cp : Nat), q ≤ s.size ∧ i = .int .i64 q ∧ v = .slice ao N cp ∧ N ≤ 16777216 ∧ wr.ownsRow Z 5 1 (.slice ao N cp) N (bc (txt ss k ++ [38] ++ s.data.toList.take q)) ∧ Below Z w wr ∧ Z ≤ wr.heap.size) (fun _ i _ => s.size - (intOf i).toNat)
        case atStart => exact ⟨0, N + 1, aoP, cpP, by omega, rfl, rfl, hNP, by simpa using hownP, hbel.trans hbelP, hzP⟩
        case round =>
          clear hownP hbelP hzP hc hown hbel hz hN
          obtain ⟨q, M, ao, cp, hq, rfl, rfl, hM, hown, hbel, hz⟩ := hrel
          by_cases hql : q < s.size
          · have H8 : Hid ((s[q].toNat : Int) = (by8 s q).toNat) := by show (s[q].toNat : Int) = _; rw [by8_eq s q hql]
            have HTK : Hid (s.data.toList.take (q + 1) = s.data.toList.take q ++ [by8 s q]) := take_snoc s q hql
            have hM2 : M + 1 ≤ 16777216 := by
              have h1 := own_len hown; have h2 := congrArg List.length HTe.out; have h3 := HB.out
              have h4 : (s.data.toList.take q).length ≤ q := List.length_take_le _ _
              have h5 := size_list s
              simp only [List.length_append] at h1 h2
              omega
            go_wp2_with (at_builtin; refine wpList_push _ _ (by8 s q) H8.out rfl (.tmp 32) (.tmp 36) rfl Z _ _ _ rfl hown rfl (by omega) hz ?_; intro ao2 cp2 w2 hown2 hbel2 hz2)
            go_roundw
            case rel => exact ⟨q + 1, M + 1, ao2, cp2, by omega, by go_num, rfl, hM2, by rw [HTK.out, ← List.append_assoc]; exact hown2, hbel.trans hbel2, hz2⟩
            case measure => simp [intOf]; omega
          · have HE : Hid (txt ss k ++ [38] ++ s.data.toList.take q = txt ss (k + 1)) := by
              show _ = _
              rw [HTe.out, List.take_of_length_le (by rw [size_list]; omega)]
            have hown3 : Hid (wr.ownsRow Z 5 1 (.slice ao M cp) M (bc (txt ss (k + 1)))) := by rw [← HE.out]; exact hown
            have hM3 : M ≤ 16777216 := hM
            go_wp2
            go_roundw
            case rel => exact ⟨k + 1, M, ao, cp, by omega, by go_num, rfl, hM3, hown3.out, hbel, hz⟩
            case measure => simp [intOf]; omega
    · have HE : Hid (txt ss k = Pl.amp (ss.map toL)) := by
        show _ = _
        unfold txt
        rw [List.take_of_length_le (by have := HL.out; omega)]
      obtain ⟨r, hr, _, hconv⟩ := own_string hown
      go_wp2
      go_ret
      exact ⟨r, rfl, hr.out.trans HE.out, by rw [← HZ.out]; exact hbel⟩

end Go.Proofs.Qxb6605302a
