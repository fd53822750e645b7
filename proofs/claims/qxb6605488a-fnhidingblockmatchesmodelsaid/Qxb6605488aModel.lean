import Derived.Test.Qxb6605488aHide
namespace Go.Proofs.Qxb6605488a
open Go.RowKit

theorem bne10 (s : ByteArray) (i : Nat) (h : i < s.size) (c : UInt8) (n : Int) (hn : (c.toNat : Int) = n) : ((s[i].toNat : Int) != n) = !(by8 s i == c) := by
  rw [by8_eq s i h, ← hn, Bool.eq_iff_iff, bne_iff_ne, Bool.not_eq_true', beq_eq_false_iff_ne]
  constructor
  · intro h1 h2; exact h1 (by rw [h2])
  · intro h1 h2; exact h1 (UInt8.toNat_inj.1 (by omega))

/-- How many backticks stand from k on before q. -/
def cnt (s : ByteArray) (k q : Nat) : Nat := ((s.data.toList.drop k).take (q - k)).count 96
theorem cnt_start (s : ByteArray) (k : Nat) : cnt s k k = 0 := by simp [cnt]
theorem cnt_next (s : ByteArray) (k q : Nat) (h1 : k ≤ q) (h2 : q < s.size) : cnt s k (q + 1) = cnt s k q + if by8 s q = 96 then 1 else 0 := by
  unfold cnt
  have he : q + 1 - k = (q - k) + 1 := by omega
  have hlt : q - k < (s.data.toList.drop k).length := by rw [List.length_drop, size_list]; omega
  rw [he, List.take_succ_eq_append_getElem hlt, List.count_append, List.getElem_drop, by8_list]
  have e2 : k + (q - k) = q := by omega
  rw [e2]
  simp only [List.count_cons, List.count_nil, beq_iff_eq, Nat.zero_add]
theorem cnt_le (s : ByteArray) (k q : Nat) : cnt s k q ≤ q - k := by
  unfold cnt
  refine Nat.le_trans List.count_le_length ?_
  rw [List.length_take]; omega

/-- The fence, counted. -/
theorem fence_cnt (s : ByteArray) (k e l : Nat) (hke : k ≤ e) (he : e ≤ s.size) (h1 : ∀ m, k ≤ m → m < e → by8 s m ≠ 10) (h2 : e < s.size → by8 s e = 10) (hl : k + l ≤ e) (h3 : ∀ m, m < l → by8 s (k + m) = 96) (h4 : k + l < e → by8 s (k + l) ≠ 96) :
    Pl.fence (s.data.toList.drop k) = decide (cnt s k e = l) := by
  have hlen : (s.data.toList.drop k).length = s.size - k := by rw [List.length_drop, size_list]
  have hline : (s.data.toList.drop k).takeWhile (· != 10) = (s.data.toList.drop k).take (e - k) := by
    have hn : ((s.data.toList.drop k).takeWhile (· != 10)).length = e - k := by
      refine tw_len _ _ (e - k) (by omega) (fun j h hj => ?_) (fun h => ?_)
      · rw [List.getElem_drop, by8_list]; simpa using h1 (k + j) (by omega) (by omega)
      · rw [List.getElem_drop, by8_list]
        have e1 : k + (e - k) = e := by omega
        rw [e1, h2 (by omega)]; rfl
    have h3 : ∀ (f : UInt8 → Bool) (L : List UInt8), L.take (L.takeWhile f).length = L.takeWhile f := fun f L => by
      induction L with
      | nil => rfl
      | cons x L ih =>
        rw [List.takeWhile_cons]
        split
        · simp [ih]
        · simp
    rw [← h3, hn]
  unfold Pl.fence
  rw [hline]
  have hll : ((s.data.toList.drop k).take (e - k)).length = e - k := by rw [List.length_take]; omega
  have hlead : (((s.data.toList.drop k).take (e - k)).takeWhile (· == 96)).length = l := by
    refine tw_len _ _ l (by omega) (fun j h hj => ?_) (fun h => ?_)
    · rw [List.getElem_take, List.getElem_drop, by8_list, h3 j hj]; rfl
    · rw [List.getElem_take, List.getElem_drop, by8_list]; simpa using h4 (by omega)
  have hall : ∀ x ∈ ((s.data.toList.drop k).take (e - k)).takeWhile (· == 96), x = 96 := by
    intro x hx
    have := List.all_eq_true.1 List.all_takeWhile x hx
    simpa using this
  have hc1 : (((s.data.toList.drop k).take (e - k)).takeWhile (· == 96)).count 96 = l := by
    rw [← hlead, List.count_eq_length]
    intro x hx; exact (hall x hx).symm
  have hsplit : cnt s k e = l + (((s.data.toList.drop k).take (e - k)).dropWhile (· == 96)).count 96 := by
    unfold cnt
    conv => lhs; rw [← List.takeWhile_append_dropWhile (p := (· == 96)) (l := (s.data.toList.drop k).take (e - k))]
    rw [List.count_append, hc1]
  rw [hsplit, Bool.eq_iff_iff, Bool.not_eq_true', decide_eq_true_iff]
  constructor
  · intro h
    have : (((s.data.toList.drop k).take (e - k)).dropWhile (· == 96)).count 96 = 0 := by
      rw [List.count_eq_zero]
      intro hm
      rw [← List.contains_iff_mem] at hm
      rw [h] at hm; cases hm
    omega
  · intro h
    have : (((s.data.toList.drop k).take (e - k)).dropWhile (· == 96)).count 96 = 0 := by omega
    rw [List.count_eq_zero] at this
    rw [Bool.eq_false_iff]
    intro hm
    rw [List.contains_iff_mem] at hm
    exact this hm

/-- The escape state from k + 1 on at j. -/
def stA (s : ByteArray) (k j : Nat) : Bool := Pl.st false ((s.data.toList.drop (k + 1)).take (j - (k + 1)))
theorem stA_start (s : ByteArray) (k : Nat) : stA s k (k + 1) = false := by simp [stA, Pl.st]
theorem stA_next (s : ByteArray) (k j : Nat) (h1 : k + 1 ≤ j) (h2 : j < s.size) : stA s k (j + 1) = (!stA s k j && by8 s j == 92) := by
  have hl : j < s.data.toList.length := by rw [size_list]; exact h2
  unfold stA
  rw [Pl.st_next _ (k + 1) j h1 hl, by8_list]
theorem stA_par (s : ByteArray) (k j p b : Nat) (h1 : k + 1 ≤ j) (h2 : j ≤ s.size) (hp : p + b + 1 = j) (hkp : k ≤ p) (hbs : ∀ m, p < m → m < j → by8 s m = 92) (hend : p = k ∨ by8 s p ≠ 92) : stA s k j = (b % 2 == 1) := by
  have hS := size_list s
  unfold stA
  refine Pl.st_par s.data.toList (k + 1) j b h1 (by omega) (by omega) (fun m hm ha hb => ?_) ?_
  · rw [by8_list]; exact hbs m (by omega) hb
  · rcases hend with e | e
    · left; omega
    · by_cases hpk : p = k
      · left; omega
      · right
        have e2 : j - b - 1 = p := by omega
        refine ⟨by omega, ?_⟩
        rw [by8_list, e2]; exact e
/-- One byte of the bracket's text. -/
theorem brk_step (s : ByteArray) (k j : Nat) (h1 : k + 1 ≤ j) (h2 : j < s.size) (h : stA s k j = true ∨ (by8 s j ≠ 91 ∧ by8 s j ≠ 93)) :
    Pl.brk (stA s k j) (s.data.toList.drop j) = Pl.brk (stA s k (j + 1)) (s.data.toList.drop (j + 1)) := by
  rw [stA_next s k j h1 h2, drop_by8 s j h2]
  cases hS : stA s k j
  · rw [hS] at h
    rcases h with h | ⟨ha, hb⟩
    · cases h
    · by_cases c : by8 s j = 92
      · rw [c, Pl.brk_bs]; rfl
      · rw [Pl.brk_else _ _ c ha hb]
        have : (by8 s j == 92) = false := by simpa using c
        rw [this]; rfl
  · rw [Pl.brk_true]; rfl

end Go.Proofs.Qxb6605488a
