/-
  Plain mathematics for seat b6605488a: what hides a line; no Go in sight.
-/
namespace Go.Proofs.Qxb6605488a.Pl

/-- A marker byte. -/
def mk (c : UInt8) : Bool := c == 32 || c == 9 || c == 62 || c == 45 || c == 43 || c == 42 || c == 46 || c == 41 || (48 ≤ c.toNat && c.toNat ≤ 57)
def MS : List UInt8 := [32, 9, 48, 49, 50, 51, 52, 53, 54, 55, 56, 57, 62, 45, 43, 42, 46, 41]

theorem toNat_ofNat (n : Nat) (h : n < 256) : (UInt8.ofNat n).toNat = n := by simp; omega

theorem mk_MS (c : UInt8) : mk c = decide (c ∈ MS) := by
  rw [Bool.eq_iff_iff, decide_eq_true_iff]
  simp only [mk, MS, List.mem_cons, List.not_mem_nil, or_false, Bool.or_eq_true, Bool.and_eq_true, beq_iff_eq, decide_eq_true_iff, ← UInt8.toNat_inj]
  simp only [UInt8.reduceToNat]
  omega

/-- From a bracket on: 'e': the next byte is escaped. -/
def brk : Bool → List UInt8 → Bool
  | _, [] => false
  | true, _ :: t => brk false t
  | false, x :: t => if x = 92 then brk true t else if x = 91 then false else if x = 93 then (t.head? == some 58) else brk false t

def np (L : List UInt8) : Nat := (L.takeWhile mk).length

/-- The fence of backticks: no backtick behind the leading run on the line. -/
def fence (R : List UInt8) : Bool := !((R.takeWhile (· != 10)).dropWhile (· == 96)).contains 96

def hidR (p : Int) (R : List UInt8) : Int :=
  if [126, 126, 126].isPrefixOf R then p
  else if [96, 96, 96].isPrefixOf R then (if fence R then p else -1)
  else if [91].isPrefixOf R then (if brk false (R.drop 1) then p else -1)
  else -1

def hid (L : List UInt8) : Int := hidR (np L) (L.drop (np L))

/-- The run of markers, told. -/
theorem np_eq (L : List UInt8) : ∀ k, k ≤ L.length → (∀ j (h : j < L.length), j < k → mk L[j] = true) → (∀ h : k < L.length, mk L[k] = false) → np L = k := by
  unfold np
  induction L with
  | nil => intro k hk _ _; simp at hk; simp [hk]
  | cons x L ih =>
    intro k hk h1 h2
    cases k with
    | zero =>
      have := h2 (by simp)
      simp only [List.getElem_cons_zero] at this
      simp [this]
    | succ k =>
      have hx := h1 0 (by simp) (by omega)
      simp only [List.getElem_cons_zero] at hx
      rw [List.takeWhile_cons, if_pos hx, List.length_cons]
      congr 1
      refine ih k (by simpa using hk) (fun j h hj => ?_) (fun h => ?_)
      · have := h1 (j + 1) (by simpa using h) (by omega)
        simpa using this
      · have := h2 (by simpa using h)
        simpa using this

theorem np_app (A B : List UInt8) (hA : ∀ x ∈ A, mk x = true) : np (A ++ B) = A.length + np B := by
  unfold np
  induction A with
  | nil => simp
  | cons x A ih =>
    have hx := hA x (List.mem_cons_self ..)
    rw [List.cons_append, List.takeWhile_cons, if_pos hx, List.length_cons, List.length_cons, ih (fun y hy => hA y (List.mem_cons_of_mem _ hy))]
    omega

theorem take_np (L : List UInt8) : L.take (np L) = L.takeWhile mk := by
  unfold np
  induction L with
  | nil => rfl
  | cons x L ih =>
    rw [List.takeWhile_cons]
    split
    · simp [ih]
    · simp

theorem np_marks (L : List UInt8) : ∀ x ∈ L.take (np L), mk x = true := by
  intro x hx
  rw [take_np] at hx
  exact List.all_eq_true.1 (List.all_takeWhile) x hx

theorem hid_shift (A L : List UInt8) (hA : ∀ x ∈ A, mk x = true) : hid (A ++ L) = if hid L = -1 then -1 else hid L + A.length := by
  have h1 := np_app A L hA
  have h2 : (A ++ L).drop (np (A ++ L)) = L.drop (np L) := by rw [h1, List.drop_append]; simp
  unfold hid
  rw [h2, h1]
  unfold hidR

  split
  · omega
  · split
    · split
      · omega
      · simp
    · split
      · split
        · omega
        · simp
      · simp

/-- A found index: the run of markers; an opening byte stands there. -/
theorem hid_found (L : List UInt8) : hid L = -1 ∨ (hid L = np L ∧ ∃ x t, L.drop (np L) = x :: t ∧ (x = 126 ∨ x = 96 ∨ x = 91)) := by
  unfold hid hidR
  have pre : ∀ (x : UInt8) (p R : List UInt8), (x :: p).isPrefixOf R = true → ∃ t, R = x :: t := by
    intro x p R h
    cases R with
    | nil => simp at h
    | cons y R =>
      simp only [List.isPrefixOf, Bool.and_eq_true, beq_iff_eq] at h
      exact ⟨R, by rw [h.1]⟩
  split
  · rename_i h
    obtain ⟨t, ht⟩ := pre _ _ _ h
    exact .inr ⟨rfl, 126, t, ht, .inl rfl⟩
  · split
    · rename_i h
      obtain ⟨t, ht⟩ := pre _ _ _ h
      split
      · exact .inr ⟨rfl, 96, t, ht, .inr (.inl rfl)⟩
      · exact .inl rfl
    · split
      · rename_i h
        obtain ⟨t, ht⟩ := pre _ _ _ h
        split
        · exact .inr ⟨rfl, 91, t, ht, .inr (.inr rfl)⟩
        · exact .inl rfl
      · exact .inl rfl

/-- A backslash put in behind the markers opens nothing. -/
theorem hid_bs (A B : List UInt8) (hA : ∀ x ∈ A, mk x = true) : hid (A ++ 92 :: B) = -1 := by
  rw [hid_shift A (92 :: B) hA]
  have h1 : np (92 :: B) = 0 := by unfold np; rw [List.takeWhile_cons, if_neg (by decide)]; rfl
  have : hid (92 :: B) = -1 := by
    unfold hid
    rw [h1]
    simp [hidR, List.isPrefixOf]
  rw [this, if_pos rfl]

/-! ### the escape state -/
def st : Bool → List UInt8 → Bool
  | e, [] => e
  | true, _ :: t => st false t
  | false, x :: t => st (x == 92) t

theorem st_snoc : ∀ (l : List UInt8) (e : Bool) (x : UInt8), st e (l ++ [x]) = (!st e l && x == 92)
  | [], true, x => by simp [st]
  | [], false, x => by simp [st]
  | y :: l, true, x => by simp only [List.cons_append, st]; exact st_snoc l false x
  | y :: l, false, x => by simp only [List.cons_append, st]; exact st_snoc l _ x

theorem st_run (l : List UInt8) (h : st false l = false) : ∀ b, st false (l ++ List.replicate b 92) = (b % 2 == 1)
  | 0 => by simpa using h
  | b + 1 => by
    rw [List.replicate_succ', ← List.append_assoc, st_snoc, st_run l h b]
    rcases Nat.mod_two_eq_zero_or_one b with e | e
    · have : (b + 1) % 2 = 1 := by omega
      simp [e, this]
    · have : (b + 1) % 2 = 0 := by omega
      simp [e, this]

theorem st_end (l : List UInt8) (h : l = [] ∨ ∃ m x, l = m ++ [x] ∧ x ≠ 92) : st false l = false := by
  rcases h with rfl | ⟨m, x, rfl, hx⟩
  · rfl
  · rw [st_snoc]; simp [hx]

/-- The state from j on at q, with b backslashes right before q. -/
theorem st_par (L : List UInt8) (j q b : Nat) (hjq : j ≤ q) (hq : q ≤ L.length) (hb : b ≤ q - j)
    (hbs : ∀ k (hk : k < L.length), q - b ≤ k → k < q → L[k] = 92) (hend : q - b = j ∨ ∃ h : q - b - 1 < L.length, L[q - b - 1] ≠ 92) :
    st false ((L.drop j).take (q - j)) = (b % 2 == 1) := by
  have hlen : ((L.drop j).take (q - j)).length = q - j := by simp; omega
  have h2 : (L.drop j).take (q - j) = (L.drop j).take (q - b - j) ++ List.replicate b 92 := by
    apply List.ext_getElem
    · simp; omega
    · intro k h1 h2
      simp only [List.getElem_take, List.getElem_drop]
      rw [hlen] at h1
      by_cases hk : k < q - b - j
      · rw [List.getElem_append_left (by simp; omega)]
        simp
      · rw [List.getElem_append_right (by simp; omega)]
        simp only [List.getElem_replicate]
        exact hbs (j + k) (by omega) (by omega) (by omega)
  rw [h2]
  apply st_run
  apply st_end
  rcases hend with h | ⟨h, hne⟩
  · left; rw [h]; simp
  · by_cases hz : q - b = j
    · left; rw [hz]; simp
    right
    have hgt : j < q - b := by omega
    refine ⟨(L.drop j).take (q - b - j - 1), L[q - b - 1], ?_, hne⟩
    have he : q - b - j = (q - b - j - 1) + 1 := by omega
    have hlt : q - b - j - 1 < (L.drop j).length := by simp; omega
    rw [he, List.take_succ_eq_append_getElem hlt]
    simp only [List.getElem_drop, Nat.add_sub_cancel]
    congr 3
    omega

theorem st_next (L : List UInt8) (j q : Nat) (hjq : j ≤ q) (hq : q < L.length) : st false ((L.drop j).take (q + 1 - j)) = (!st false ((L.drop j).take (q - j)) && L[q] == 92) := by
  have he : q + 1 - j = (q - j) + 1 := by omega
  have hlt : q - j < (L.drop j).length := by simp; omega
  rw [he, List.take_succ_eq_append_getElem hlt, st_snoc]
  congr 2
  simp only [List.getElem_drop]
  congr 1; omega

theorem brk_true (x : UInt8) (t : List UInt8) : brk true (x :: t) = brk false t := by simp [brk]
theorem brk_bs (t : List UInt8) : brk false (92 :: t) = brk true t := by simp [brk]
theorem brk_open (t : List UInt8) : brk false (91 :: t) = false := by simp [brk]
theorem brk_close (t : List UInt8) : brk false (93 :: t) = (t.head? == some 58) := by simp [brk]
theorem brk_else (x : UInt8) (t : List UInt8) (h1 : x ≠ 92) (h2 : x ≠ 91) (h3 : x ≠ 93) : brk false (x :: t) = brk false t := by simp [brk, h1, h2, h3]
theorem brk_nil (e : Bool) : brk e [] = false := by cases e <;> rfl

end Go.Proofs.Qxb6605488a.Pl
