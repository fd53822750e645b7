import Derived.Test.Qxb6605302aSmall
import Derived.Test.Qxb6605302aShelf
namespace Go.Proofs.Qxb6605302a
open Go.RowKit

def toL (s : ByteArray) : List UInt8 := s.data.toList
theorem amp_join (xs : List (List UInt8)) : Lib.join xs [38] = Pl.amp xs := by
  cases xs with
  | nil => rfl
  | cons x r => rw [Lib.join_cons]; simp [Pl.amp, Lib.joinTail, Pl.ampT, List.flatMap]

theorem suf_last (L : List UInt8) (c : UInt8) : Lib.hasSuffix L [c] = decide (L.getLast? = some c) := by
  rw [Bool.eq_iff_iff, decide_eq_true_iff]
  unfold Lib.hasSuffix
  rw [List.isSuffixOf_iff_suffix]
  constructor
  · rintro ⟨t, rfl⟩; simp
  · intro h
    obtain ⟨ys, rfl⟩ := List.getLast?_eq_some_iff.1 h
    exact ⟨ys, rfl⟩

theorem idx_mem (L : List UInt8) (c : UInt8) : decide (0 ≤ Lib.indexByte L c) = decide (c ∈ L) := by
  rw [Bool.eq_iff_iff, decide_eq_true_iff, decide_eq_true_iff]
  rcases indexByte_form L c with ⟨h, ha⟩ | ⟨k, hk, he, hkc, _⟩
  · rw [h]
    constructor
    · intro h; omega
    · intro h; exact absurd rfl (ha c h)
  · rw [he]
    constructor
    · intro _; rw [← hkc]; exact List.getElem_mem hk
    · intro _; omega

theorem app_list (a b : ByteArray) : (a ++ b).data.toList = a.data.toList ++ b.data.toList := by
  rw [ByteArray.data_append, Array.toList_append]

/-- join, its parts decided: 'x', 'y': what the two HasSuffix say; 'z': what Contains says. -/
theorem join20 (base : ByteArray) (hbs : base.size ≤ 16777216) (bk o c : Nat) (xs : List ByteArray) (w : World)
    (hcells : ∀ (j : Nat) x, xs[j]? = some x → w.cell? ⟨bk, o + j, none⟩ = some (.string x)) (hbk : bk < w.heap.size) (hN : xs.length ≤ 16777216) (hcap : xs.length ≤ c) (hlen : (Pl.amp (xs.map toL)).length ≤ 16777216) :
    Calls Try.prog 20 #[.string base, .slice (some ⟨bk, o, none⟩) xs.length c] w fun e w' => ∃ r : ByteArray, e = .returned (.string r) ∧ Hid (r.data.toList = Pl.J base.data.toList (xs.map toL)) ∧ Below w.heap.size w w' := by
  have hc := Try.strings_Join bk o c xs ⟨#[38]⟩ w hcells hbk (by omega) hcap (by rw [show (⟨#[38]⟩ : ByteArray).data.toList = [38] from rfl, amp_join]; exact Nat.le_trans hlen (by decide))
  have HC : Hid (Calls Try.prog 26 #[.slice (some ⟨bk, o, none⟩) xs.length c, .string ⟨#[38]⟩] w fun e w' => e = .returned (.string ⟨(Lib.join (xs.map (·.data.toList)) [38]).toArray⟩) ∧ Below w.heap.size w w') := hc
  clear hc hcells
  obtain ⟨jn, hjn⟩ : ∃ jn : ByteArray, jn = ⟨(Lib.join (xs.map (·.data.toList)) [38]).toArray⟩ := ⟨_, rfl⟩
  rw [← hjn] at HC
  have HJ : Hid (jn.data.toList = Pl.amp (xs.map toL)) := by rw [hjn, amp_join]; rfl
  have hjs : jn.size ≤ 16777216 := by rw [← size_list, HJ.out]; exact hlen
  clear hjn
  cases hx : Lib.hasSuffix base.data.toList [63]
  · have n1 : ¬ base.data.toList.getLast? = some 63 := by rw [suf_last] at hx; exact of_decide_eq_false hx
    have N1 : Hid (¬ base.data.toList.getLast? = some 63) := n1
    cases hy : Lib.hasSuffix base.data.toList [38]
    · have n2 : ¬ base.data.toList.getLast? = some 38 := by rw [suf_last] at hy; exact of_decide_eq_false hy
      have N2 : Hid (¬ base.data.toList.getLast? = some 38) := n2
      clear n1 n2
      cases hz : decide (0 ≤ Lib.indexByte base.data.toList 63)
      · have S : Hid (Pl.sepOf base.data.toList = [63]) := by
          rw [idx_mem] at hz
          show Pl.sepOf base.data.toList = [63]
          unfold Pl.sepOf
          rw [if_neg (by rintro (e | e); exact N1.out e; exact N2.out e), if_neg (of_decide_eq_false hz)]
        go_enter Try.func20, Try.ntmps20
        go_wp2_with (first | (go_at_call 24; refine (Try.strings_HasSuffix _ _ _ (by omega)).mono ?_; rintro e w' ⟨rfl, rfl⟩) | (go_at_call 25; refine (Try.strings_Contains_one _ _ _).mono ?_; rintro e w' ⟨rfl, rfl⟩) | (go_at_call 26; refine HC.out.mono ?_; rintro e w2 ⟨rfl, hb2⟩))
        go_ret
        exact ⟨_, rfl, by show _ = _; rw [app_list, app_list, HJ.out]; unfold Pl.J; rw [S.out], hb2⟩
      · have S : Hid (Pl.sepOf base.data.toList = [38]) := by
          rw [idx_mem] at hz
          show Pl.sepOf base.data.toList = [38]
          unfold Pl.sepOf
          rw [if_neg (by rintro (e | e); exact N1.out e; exact N2.out e), if_pos (of_decide_eq_true hz)]
        go_enter Try.func20, Try.ntmps20
        go_wp2_with (first | (go_at_call 24; refine (Try.strings_HasSuffix _ _ _ (by omega)).mono ?_; rintro e w' ⟨rfl, rfl⟩) | (go_at_call 25; refine (Try.strings_Contains_one _ _ _).mono ?_; rintro e w' ⟨rfl, rfl⟩) | (go_at_call 26; refine HC.out.mono ?_; rintro e w2 ⟨rfl, hb2⟩))
        go_ret
        exact ⟨_, rfl, by show _ = _; rw [app_list, app_list, HJ.out]; unfold Pl.J; rw [S.out], hb2⟩
    · have S : Hid (Pl.sepOf base.data.toList = []) := by
        rw [suf_last] at hy
        show Pl.sepOf base.data.toList = []
        unfold Pl.sepOf
        rw [if_pos (.inr (of_decide_eq_true hy))]
      clear n1
      go_enter Try.func20, Try.ntmps20
      go_wp2_with (first | (go_at_call 24; refine (Try.strings_HasSuffix _ _ _ (by omega)).mono ?_; rintro e w' ⟨rfl, rfl⟩) | (go_at_call 25; refine (Try.strings_Contains_one _ _ _).mono ?_; rintro e w' ⟨rfl, rfl⟩) | (go_at_call 26; refine HC.out.mono ?_; rintro e w2 ⟨rfl, hb2⟩))
      go_ret
      exact ⟨_, rfl, by show _ = _; rw [app_list, app_list, HJ.out]; unfold Pl.J; rw [S.out], hb2⟩
  · have S : Hid (Pl.sepOf base.data.toList = []) := by
      rw [suf_last] at hx
      show Pl.sepOf base.data.toList = []
      unfold Pl.sepOf
      rw [if_pos (.inl (of_decide_eq_true hx))]
    go_enter Try.func20, Try.ntmps20
    go_wp2_with (first | (go_at_call 24; refine (Try.strings_HasSuffix _ _ _ (by omega)).mono ?_; rintro e w' ⟨rfl, rfl⟩) | (go_at_call 25; refine (Try.strings_Contains_one _ _ _).mono ?_; rintro e w' ⟨rfl, rfl⟩) | (go_at_call 26; refine HC.out.mono ?_; rintro e w2 ⟨rfl, hb2⟩))
    go_ret
    exact ⟨_, rfl, by show _ = _; rw [app_list, app_list, HJ.out]; unfold Pl.J; rw [S.out], hb2⟩

end Go.Proofs.Qxb6605302a
