/-
  Plain mathematics for seat b6605428a: the escape scanner; no Go in sight.
-/
namespace Go.Proofs.Qxb6605428a.Pl

/-- The escape scanner: 'e': the byte ahead is escaped; 'n': the index of the list's head. The index just past the first quote that is not escaped, or -1. -/
def scan : Bool → List UInt8 → Int → Int
  | _, [], _ => -1
  | true, _ :: t, n => scan false t (n + 1)
  | false, x :: t, n => if x = 34 then n + 1 else scan (x == 92) t (n + 1)

/-- The scanner's state behind a list. -/
def st : Bool → List UInt8 → Bool
  | e, [] => e
  | true, _ :: t => st false t
  | false, x :: t => st (x == 92) t

theorem scan_append : ∀ (l r : List UInt8) (e : Bool) (n : Int), (∀ x ∈ l, x ≠ 34) → scan e (l ++ r) n = scan (st e l) r (n + l.length)
  | [], r, e, n, _ => by simp [st]
  | x :: l, r, true, n, h => by
    have ih := scan_append l r false (n + 1) (fun y hy => h y (List.mem_cons_of_mem _ hy))
    simp only [List.cons_append, scan, st, ih, List.length_cons]
    congr 1; omega
  | x :: l, r, false, n, h => by
    have hx : x ≠ 34 := h x (List.mem_cons_self ..)
    have ih := scan_append l r (x == 92) (n + 1) (fun y hy => h y (List.mem_cons_of_mem _ hy))
    simp only [List.cons_append, scan, st, ih, List.length_cons, if_neg hx]
    congr 1; omega

theorem scan_none : ∀ (l : List UInt8) (e : Bool) (n : Int), (∀ x ∈ l, x ≠ 34) → scan e l n = -1
  | [], e, n, _ => by simp [scan]
  | x :: l, true, n, h => by
    simp only [scan]; exact scan_none l false (n + 1) (fun y hy => h y (List.mem_cons_of_mem _ hy))
  | x :: l, false, n, h => by
    have hx : x ≠ 34 := h x (List.mem_cons_self ..)
    simp only [scan, if_neg hx]; exact scan_none l _ (n + 1) (fun y hy => h y (List.mem_cons_of_mem _ hy))

theorem st_snoc : ∀ (l : List UInt8) (e : Bool) (x : UInt8), st e (l ++ [x]) = (!st e l && x == 92)
  | [], true, x => by simp [st]
  | [], false, x => by simp [st]
  | y :: l, true, x => by simp only [List.cons_append, st]; exact st_snoc l false x
  | y :: l, false, x => by simp only [List.cons_append, st]; exact st_snoc l _ x

/-- b backslashes behind a list whose state is 'not escaped'. -/
theorem st_run (l : List UInt8) (h : st false l = false) : ∀ b, st false (l ++ List.replicate b 92) = (b % 2 == 1)
  | 0 => by simpa using h
  | b + 1 => by
    rw [List.replicate_succ', ← List.append_assoc, st_snoc, st_run l h b]
    rcases Nat.mod_two_eq_zero_or_one b with e | e
    · have : (b + 1) % 2 = 1 := by omega
      simp [e, this]
    · have : (b + 1) % 2 = 0 := by omega
      simp [e, this]

/-- A list that is empty, or whose last byte is no backslash. -/
theorem st_end (l : List UInt8) (h : l = [] ∨ ∃ m x, l = m ++ [x] ∧ x ≠ 92) : st false l = false := by
  rcases h with rfl | ⟨m, x, rfl, hx⟩
  · rfl
  · rw [st_snoc]; simp [hx]

/-- SkipString's answer. -/
def skipStr (L : List UInt8) (i : Nat) : Int :=
  match L.drop i with
  | [] => -1
  | x :: t => if x = 34 then scan false t (i + 1) else -1

/-- One byte, escaped. -/
def e1 (x : UInt8) : List UInt8 := if x = 34 ∨ x = 92 then [92, x] else [x]
def esc (c : List UInt8) : List UInt8 := c.flatMap e1
def quoted (c : List UInt8) : List UInt8 := 34 :: (esc c ++ [34])

theorem scan_esc : ∀ (c r : List UInt8) (n : Int), scan false (esc c ++ 34 :: r) n = n + (esc c).length + 1
  | [], r, n => by simp [esc, scan]
  | x :: c, r, n => by
    have hc : esc (x :: c) = e1 x ++ esc c := by simp [esc]
    rw [hc]
    by_cases hx : x = 34 ∨ x = 92
    · have he : e1 x = [92, x] := by simp [e1, hx]
      have ih := scan_esc c r (n + 1 + 1)
      rw [he]
      simp only [List.cons_append, List.nil_append, scan, List.length_cons]
      rw [if_neg (by decide)]
      simp only [beq_self_eq_true, scan, ih]
      omega
    · have he : e1 x = [x] := by simp [e1, hx]
      have h1 : x ≠ 34 := fun h => hx (.inl h)
      have h2 : (x == 92) = false := by simpa using fun h => hx (.inr h)
      have ih := scan_esc c r (n + 1)
      rw [he]
      simp only [List.cons_append, List.nil_append, scan, if_neg h1, h2, ih, List.length_cons]
      omega

theorem skipStr_quoted (p c r : List UInt8) : skipStr (p ++ (quoted c ++ r)) p.length = ((p.length + (quoted c).length : Nat) : Int) := by
  unfold skipStr
  rw [List.drop_left]
  have hq : quoted c ++ r = 34 :: (esc c ++ 34 :: r) := by simp [quoted]
  rw [hq]
  simp only [if_pos]
  rw [scan_esc]
  simp [quoted]; omega

/-- Where a byte is found. -/
theorem skipStr_ge (L : List UInt8) (i : Nat) (h : L.length ≤ i) : skipStr L i = -1 := by
  unfold skipStr; rw [List.drop_eq_nil_of_le h]

theorem skipStr_ne (L : List UInt8) (i : Nat) (h : i < L.length) (hx : L[i] ≠ 34) : skipStr L i = -1 := by
  unfold skipStr; rw [List.drop_eq_getElem_cons h]; simp [hx]

theorem skipStr_eq (L : List UInt8) (i : Nat) (h : i < L.length) (hx : L[i] = 34) : skipStr L i = scan false (L.drop (i + 1)) (i + 1) := by
  unfold skipStr; rw [List.drop_eq_getElem_cons h]; simp [hx]

/-- One search from j on finds no quote. -/
theorem scan_miss (L : List UInt8) (j : Nat) (h : ∀ x ∈ L.drop j, x ≠ 34) (n : Int) : scan false (L.drop j) n = -1 := scan_none _ _ _ h

/-- One search from j on finds a quote at q, with b backslashes right before it, and no more. -/
theorem scan_hit (L : List UInt8) (j q b : Nat) (hjq : j ≤ q) (hq : q < L.length) (hb : b ≤ q - j) (hqq : L[q] = 34) (hno : ∀ k (hk : k < L.length), j ≤ k → k < q → L[k] ≠ 34)
    (hbs : ∀ k (hk : k < L.length), q - b ≤ k → k < q → L[k] = 92) (hend : q - b = j ∨ ∃ h : q - b - 1 < L.length, L[q - b - 1] ≠ 92) :
    scan false (L.drop j) j = if b % 2 = 0 then (q : Int) + 1 else scan false (L.drop (q + 1)) (q + 1) := by
  have hlen : ((L.drop j).take (q - j)).length = q - j := by simp; omega
  have hsplit : L.drop j = (L.drop j).take (q - j) ++ L.drop q := by
    conv => lhs; rw [← List.take_append_drop (q - j) (L.drop j)]
    rw [List.drop_drop]; congr 2; omega
  have hdq : L.drop q = 34 :: L.drop (q + 1) := by rw [List.drop_eq_getElem_cons hq, hqq]
  rw [hsplit, scan_append _ _ _ _ ?_, hdq, hlen]
  · have hst : st false ((L.drop j).take (q - j)) = (b % 2 == 1) := by
      have h2 : (L.drop j).take (q - j) = (L.drop j).take (q - b - j) ++ List.replicate b 92 := by
        apply List.ext_getElem
        · simp; omega
        · intro k h1 h2
          simp only [List.getElem_take, List.getElem_drop]
          rw [hlen] at h1
          by_cases hk : k < q - b - j
          · rw [List.getElem_append_left (by simp; omega)]
            simp
          · rw [List.getElem_append_right (by simp; omega)]
            simp only [List.getElem_replicate]
            exact hbs (j + k) (by omega) (by omega) (by omega)
      rw [h2]
      apply st_run
      apply st_end
      rcases hend with h | ⟨h, hne⟩
      · left; rw [h]; simp
      · by_cases hz : q - b = j
        · left; rw [hz]; simp
        right
        have hgt : j < q - b := by omega
        refine ⟨(L.drop j).take (q - b - j - 1), L[q - b - 1], ?_, hne⟩
        have he : q - b - j = (q - b - j - 1) + 1 := by omega
        have hlt : q - b - j - 1 < (L.drop j).length := by simp; omega
        rw [he, List.take_succ_eq_append_getElem hlt]
        simp only [List.getElem_drop, Nat.add_sub_cancel]
        congr 3
        omega
    rw [hst]
    rcases Nat.mod_two_eq_zero_or_one b with e | e
    · have hq' : (j : Int) + ((q - j : Nat) : Int) + 1 = (q : Int) + 1 := by omega
      simp [e, scan, hq']
    · have hq' : (j : Int) + ((q - j : Nat) : Int) + 1 = (q : Int) + 1 := by omega
      simp [e, scan, hq']
  · intro x hx
    obtain ⟨k, hk, rfl⟩ := List.getElem_of_mem hx
    rw [hlen] at hk
    simp only [List.getElem_take, List.getElem_drop]
    exact hno (j + k) (by omega) (by omega) (by omega)

theorem scan_bd : ∀ (l : List UInt8) (e : Bool) (n : Int), scan e l n = -1 ∨ (n + 1 ≤ scan e l n ∧ scan e l n ≤ n + l.length)
  | [], e, n => by left; simp [scan]
  | x :: l, true, n => by
    simp only [scan, List.length_cons]
    rcases scan_bd l false (n + 1) with h | h
    · exact .inl h
    · right; omega
  | x :: l, false, n => by
    simp only [scan, List.length_cons]
    by_cases hx : x = 34
    · rw [if_pos hx]; right; omega
    · rw [if_neg hx]
      rcases scan_bd l (x == 92) (n + 1) with h | h
      · exact .inl h
      · right; omega

theorem skipStr_bd (L : List UInt8) (i : Nat) (h : i < L.length) : skipStr L i = -1 ∨ ((i : Int) + 2 ≤ skipStr L i ∧ skipStr L i ≤ L.length) := by
  by_cases hx : L[i] = 34
  · rw [skipStr_eq L i h hx]
    rcases scan_bd (L.drop (i + 1)) false (i + 1) with h1 | h1
    · exact .inl h1
    · right; simp only [List.length_drop] at h1; omega
  · left; exact skipStr_ne L i h hx

/-- SkipValue's loop over a bracketed value, with fuel: 'j' the index, 'd' the depth. -/
def valGo : Nat → List UInt8 → Nat → Int → Int
  | 0, _, _, _ => -1
  | f + 1, L, j, d =>
    match L.drop j with
    | [] => -1
    | x :: _ =>
      if x = 34 then (if skipStr L j < 0 then -1 else valGo f L (skipStr L j).toNat d)
      else if x = 123 ∨ x = 91 then valGo f L (j + 1) (d + 1)
      else if x = 125 ∨ x = 93 then (if d - 1 = 0 then (j : Int) + 1 else valGo f L (j + 1) (d - 1))
      else valGo f L (j + 1) d

theorem valGo_end (f : Nat) (L : List UInt8) (j : Nat) (d : Int) (h : L.length ≤ j) : valGo f L j d = -1 := by
  cases f with
  | zero => rfl
  | succ f => unfold valGo; rw [List.drop_eq_nil_of_le h]

theorem valGo_quote (f : Nat) (L : List UInt8) (j : Nat) (d : Int) (h : j < L.length) (hx : L[j] = 34) : valGo (f + 1) L j d = if skipStr L j < 0 then -1 else valGo f L (skipStr L j).toNat d := by
  rw [valGo, List.drop_eq_getElem_cons h]; simp only [hx, if_true]

theorem valGo_open (f : Nat) (L : List UInt8) (j : Nat) (d : Int) (h : j < L.length) (hx : L[j] = 123 ∨ L[j] = 91) : valGo (f + 1) L j d = valGo f L (j + 1) (d + 1) := by
  rw [valGo, List.drop_eq_getElem_cons h]
  have h34 : L[j] ≠ 34 := by rcases hx with e | e <;> rw [e] <;> decide
  simp only [if_neg h34, if_pos hx]

theorem valGo_close (f : Nat) (L : List UInt8) (j : Nat) (d : Int) (h : j < L.length) (hx : L[j] = 125 ∨ L[j] = 93) : valGo (f + 1) L j d = if d - 1 = 0 then (j : Int) + 1 else valGo f L (j + 1) (d - 1) := by
  rw [valGo, List.drop_eq_getElem_cons h]
  have h34 : L[j] ≠ 34 := by rcases hx with e | e <;> rw [e] <;> decide
  have h91 : ¬ (L[j] = 123 ∨ L[j] = 91) := by rcases hx with e | e <;> rw [e] <;> decide
  simp only [if_neg h34, if_neg h91, if_pos hx]

theorem valGo_else (f : Nat) (L : List UInt8) (j : Nat) (d : Int) (h : j < L.length) (h34 : L[j] ≠ 34) (h91 : ¬ (L[j] = 123 ∨ L[j] = 91)) (h93 : ¬ (L[j] = 125 ∨ L[j] = 93)) : valGo (f + 1) L j d = valGo f L (j + 1) d := by
  rw [valGo, List.drop_eq_getElem_cons h]
  simp only [if_neg h34, if_neg h91, if_neg h93]

/-! ### an array of strings as text -/
def tailT (r : List (List UInt8)) : List UInt8 := r.flatMap fun s => 44 :: quoted s
def body : List (List UInt8) → List UInt8
  | [] => []
  | s :: r => quoted s ++ tailT r

theorem body_snoc (a : List (List UInt8)) (s : List UInt8) : body (a ++ [s]) = body a ++ (if a = [] then [] else [44]) ++ quoted s := by
  cases a with
  | nil => simp [body, tailT]
  | cons x a => simp [body, tailT]

theorem body_append (a b : List (List UInt8)) (s : List UInt8) : body (a ++ s :: b) = body (a ++ [s]) ++ tailT b := by
  cases a with
  | nil => simp [body, tailT]
  | cons x a => simp [body, tailT]

theorem quoted_head (s r : List UInt8) : ∃ t, quoted s ++ r = 34 :: t := ⟨esc s ++ [34] ++ r, by simp [quoted]⟩

theorem getElem_at (p : List UInt8) (x : UInt8) (r : List UInt8) (h : p.length < (p ++ x :: r).length) : (p ++ x :: r)[p.length] = x := by
  simp

/-- From a quote on. -/
theorem valGo_quoted (f : Nat) (p s r : List UInt8) (d : Int) : valGo (f + 1) (p ++ (quoted s ++ r)) p.length d = valGo f (p ++ (quoted s ++ r)) (p.length + (quoted s).length) d := by
  obtain ⟨t, ht⟩ := quoted_head s r
  have hl : p.length < (p ++ (quoted s ++ r)).length := by rw [ht]; simp
  have hx : (p ++ (quoted s ++ r))[p.length] = 34 := by simp [ht]
  rw [valGo_quote f _ _ d hl hx, skipStr_quoted, if_neg (by omega), Int.toNat_natCast]

theorem valGo_tail (suf : List UInt8) : ∀ (r : List (List UInt8)) (p : List UInt8) (f : Nat), (p ++ (tailT r ++ 93 :: suf)).length < f + p.length →
    valGo f (p ++ (tailT r ++ 93 :: suf)) p.length 1 = ((p.length + (tailT r).length + 1 : Nat) : Int)
  | [], p, f, hf => by
    have h0 : tailT [] = [] := rfl
    rw [h0] at hf ⊢
    obtain ⟨g, rfl⟩ : ∃ g, f = g + 1 := ⟨f - 1, by simp at hf; omega⟩
    simp only [List.nil_append]
    rw [valGo_close g _ _ _ (by simp) (by simp)]
    simp
  | s :: r, p, f, hf => by
    have h0 : tailT (s :: r) = 44 :: (quoted s ++ tailT r) := by simp [tailT]
    rw [h0] at hf ⊢
    have hq : 2 ≤ (quoted s).length := by simp [quoted]
    obtain ⟨g, rfl⟩ : ∃ g, f = g + 1 + 1 := ⟨f - 2, by simp at hf; omega⟩
    have e1 : p ++ (44 :: (quoted s ++ tailT r) ++ 93 :: suf) = (p ++ [44]) ++ (quoted s ++ (tailT r ++ 93 :: suf)) := by simp
    have e2 : (p ++ [44]) ++ (quoted s ++ (tailT r ++ 93 :: suf)) = (p ++ 44 :: quoted s) ++ (tailT r ++ 93 :: suf) := by simp
    have hx : (p ++ (44 :: (quoted s ++ tailT r) ++ 93 :: suf))[p.length]? = some 44 := by simp
    have hl : p.length < (p ++ (44 :: (quoted s ++ tailT r) ++ 93 :: suf)).length := by simp
    have hx' : (p ++ (44 :: (quoted s ++ tailT r) ++ 93 :: suf))[p.length] = 44 := by simp
    rw [valGo_else (g + 1) _ _ 1 hl (by rw [hx']; decide) (by rw [hx']; decide) (by rw [hx']; decide)]
    rw [e1] at hf ⊢
    have hp : p.length + 1 = (p ++ [44]).length := by simp
    rw [hp, valGo_quoted g (p ++ [44]) s (tailT r ++ 93 :: suf) 1]
    have hp2 : (p ++ [44]).length + (quoted s).length = (p ++ 44 :: quoted s).length := by simp; omega
    rw [hp2]
    rw [e2] at hf ⊢
    rw [valGo_tail suf r (p ++ 44 :: quoted s) g (by simp at hf ⊢; omega)]
    simp; omega

/-- The whole array. -/
theorem valGo_arr (p suf : List UInt8) (items : List (List UInt8)) (f : Nat) (hf : (p ++ 91 :: (body items ++ 93 :: suf)).length < f + p.length) :
    valGo f (p ++ 91 :: (body items ++ 93 :: suf)) p.length 0 = ((p.length + 1 + (body items).length + 1 : Nat) : Int) := by
  obtain ⟨g, rfl⟩ : ∃ g, f = g + 1 := ⟨f - 1, by simp at hf; omega⟩
  have hl : p.length < (p ++ 91 :: (body items ++ 93 :: suf)).length := by simp
  have hx : (p ++ 91 :: (body items ++ 93 :: suf))[p.length] = 91 := by simp
  rw [valGo_open g _ _ 0 hl (.inr hx)]
  have e1 : p ++ 91 :: (body items ++ 93 :: suf) = (p ++ [91]) ++ (body items ++ 93 :: suf) := by simp
  have hp : p.length + 1 = (p ++ [91]).length := by simp
  rw [hp, e1]
  cases items with
  | nil =>
    have := valGo_tail suf [] (p ++ [91]) g (by simp [body, tailT] at hf ⊢; omega)
    simpa [body, tailT] using this
  | cons s r =>
    have hq : 2 ≤ (quoted s).length := by simp [quoted]
    obtain ⟨k, rfl⟩ : ∃ k, g = k + 1 := ⟨g - 1, by simp [body] at hf; omega⟩
    have e2 : (p ++ [91]) ++ (body (s :: r) ++ 93 :: suf) = (p ++ [91]) ++ (quoted s ++ (tailT r ++ 93 :: suf)) := by simp [body]
    have e3 : (p ++ [91]) ++ (quoted s ++ (tailT r ++ 93 :: suf)) = (p ++ 91 :: quoted s) ++ (tailT r ++ 93 :: suf) := by simp
    rw [e2]
    show valGo (k + 1) _ _ 1 = _
    rw [valGo_quoted k]
    have hp2 : (p ++ [91]).length + (quoted s).length = (p ++ 91 :: quoted s).length := by simp; omega
    rw [hp2]
    rw [e3]
    rw [valGo_tail suf r (p ++ 91 :: quoted s) k (by simp [body] at hf ⊢; omega)]
    simp [body]; omega

end Go.Proofs.Qxb6605428a.Pl
