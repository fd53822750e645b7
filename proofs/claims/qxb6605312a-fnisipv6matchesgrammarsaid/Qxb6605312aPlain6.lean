import Derived.Test.Qxb6605312aPlain
namespace Go.Proofs.Qxb6605312a.Pl

def v4 (L : List UInt8) : Bool := s4 3 L
def fin (g : Nat) (e : Bool) : Bool := (decide (g = 8) && !e) || (decide (g < 8) && e)

/-- The parser at a group's start. -/
def T : Nat → List UInt8 → Nat → Bool → Bool
  | 0, _, _, _ => false
  | f + 1, L, g, e =>
    if (L.dropWhile hx).head? = some 46 then (if v4 L then fin (g + 2) e else false)
    else if (L.takeWhile hx).length = 0 ∨ 4 < (L.takeWhile hx).length then false
    else match L.dropWhile hx with
      | [] => fin (g + 1) e
      | x :: L1 => if x = 58 then (match L1 with
          | 58 :: L2 => if e then false else if L2 = [] then fin (g + 1) true else T f L2 (g + 1) true
          | L1 => T f L1 (g + 1) e) else false

/-- The parser at the loop's head. -/
def S (f : Nat) (L : List UInt8) (g : Nat) (e : Bool) : Bool :=
  match L with
  | [] => fin g e
  | x :: L1 => if g = 0 then T f (x :: L1) g e else if x = 58 then (match L1 with
      | 58 :: L2 => if e then false else if L2 = [] then fin g true else T f L2 g true
      | L1 => T f L1 g e) else false

/-- .. behind a colon. -/
def Sc (f : Nat) (L1 : List UInt8) (g : Nat) (e : Bool) : Bool :=
  match L1 with
  | 58 :: L2 => if e then false else if L2 = [] then fin g true else T f L2 g true
  | L1 => T f L1 g e

theorem S_nil (f g : Nat) (e : Bool) : S f [] g e = fin g e := rfl
theorem S_zero (f : Nat) (x : UInt8) (L : List UInt8) (e : Bool) : S f (x :: L) 0 e = T f (x :: L) 0 e := by
  unfold S
  exact if_pos rfl
theorem S_pos (f : Nat) (x : UInt8) (L : List UInt8) (g : Nat) (e : Bool) (hg : g ≠ 0) : S f (x :: L) g e = if x = 58 then Sc f L g e else false := by
  show (if g = 0 then _ else _) = _
  rw [if_neg hg]; rfl
theorem Sc_two (f : Nat) (L : List UInt8) (g : Nat) (e : Bool) : Sc f (58 :: L) g e = if e then false else if L = [] then fin g true else T f L g true := rfl
theorem Sc_one (f : Nat) (L : List UInt8) (g : Nat) (e : Bool) (h : L.head? ≠ some 58) : Sc f L g e = T f L g e := by
  unfold Sc
  split
  · rename_i L2; exact absurd rfl h
  · rfl

theorem T_dot (f : Nat) (L : List UInt8) (g : Nat) (e : Bool) (h1 : (L.dropWhile hx).head? = some 46) : T (f + 1) L g e = if v4 L then fin (g + 2) e else false := by
  rw [T, if_pos h1]
theorem T_bad (f : Nat) (L : List UInt8) (g : Nat) (e : Bool) (h1 : (L.dropWhile hx).head? ≠ some 46) (h2 : (L.takeWhile hx).length = 0 ∨ 4 < (L.takeWhile hx).length) : T (f + 1) L g e = false := by
  rw [T, if_neg h1, if_pos h2]
theorem T_S (f : Nat) (L : List UInt8) (g : Nat) (e : Bool) (h1 : (L.dropWhile hx).head? ≠ some 46) (h2 : (L.takeWhile hx).length ≠ 0) (h3 : (L.takeWhile hx).length ≤ 4) :
    T (f + 1) L g e = S f (L.dropWhile hx) (g + 1) e := by
  rw [T, if_neg h1, if_neg (by omega)]
  cases L.dropWhile hx with
  | nil => rfl
  | cons x L1 => rw [S_pos _ _ _ _ _ (by omega)]; rfl

/-! ### splitting at colons -/
def sp : List UInt8 → List UInt8 × List (List UInt8)
  | [] => ([], [])
  | x :: L => if x = 58 then ([], (sp L).1 :: (sp L).2) else (x :: (sp L).1, (sp L).2)
/-- Elements joined by colons. -/
def je (f : List UInt8) : List (List UInt8) → List UInt8
  | [] => f
  | a :: r => f ++ 58 :: je a r

theorem je_cons (x : UInt8) (f : List UInt8) (r : List (List UInt8)) : je (x :: f) r = x :: je f r := by
  cases r <;> rfl
theorem sp_je : ∀ L : List UInt8, je (sp L).1 (sp L).2 = L
  | [] => rfl
  | x :: L => by
    unfold sp
    split
    · rename_i h
      rw [h]; show [] ++ 58 :: je (sp L).1 (sp L).2 = 58 :: L
      rw [sp_je L]; rfl
    · show je (x :: (sp L).1) (sp L).2 = x :: L
      rw [je_cons, sp_je L]
/-- No element holds a colon. -/
theorem sp_free : ∀ L : List UInt8, (∀ x ∈ (sp L).1, x ≠ 58) ∧ ∀ a ∈ (sp L).2, ∀ x ∈ a, x ≠ 58
  | [] => ⟨fun x hx => by simp [sp] at hx, fun a ha => by simp [sp] at ha⟩
  | x :: L => by
    have ih := sp_free L
    unfold sp
    split
    · refine ⟨fun x hx => by simp at hx, fun a ha => ?_⟩
      rcases List.mem_cons.1 ha with rfl | ha
      · exact ih.1
      · exact ih.2 a ha
    · rename_i h
      refine ⟨fun y hy => ?_, ih.2⟩
      rcases List.mem_cons.1 hy with rfl | hy
      · exact h
      · exact ih.1 y hy

/-! ### counting groups -/
def okG (f : List UInt8) : Bool := decide (1 ≤ f.length) && decide (f.length ≤ 4) && f.all hx
def G (v : Bool) (f : List UInt8) : List (List UInt8) → Option Nat
  | [] => if v && f.contains 46 then (if v4 f then some 2 else none) else if okG f then some 1 else none
  | a :: r => if okG f then (G v a r).map (· + 1) else none
def mg (v : Bool) (L : List UInt8) : Option Nat := if L = [] then some 0 else G v (sp L).1 (sp L).2

def fin? (o : Option Nat) (g : Nat) (e : Bool) : Bool := match o with | some c => fin (g + c) e | none => false

theorem v4_no (L : List UInt8) (x : UInt8) (hx : x ∈ L) (h : x = 58) : v4 L = false := by
  cases hv : v4 L
  · rfl
  · rcases s4_chars 3 L hv x hx with h1 | h1
    · exact absurd h (dg_ne x h1).1
    · rw [h] at h1; exact absurd h1 (by decide)

theorem okG_hx (f : List UInt8) (h : okG f = true) : (∀ x ∈ f, hx x = true) ∧ 1 ≤ f.length ∧ f.length ≤ 4 := by
  simp only [okG, Bool.and_eq_true, decide_eq_true_iff, List.all_eq_true] at h
  exact ⟨h.2, h.1.1, h.1.2⟩
theorem hx_okG (f : List UInt8) (h1 : ∀ x ∈ f, hx x = true) (h2 : f.length ≠ 0) (h3 : f.length ≤ 4) : okG f = true := by
  simp only [okG, Bool.and_eq_true, decide_eq_true_iff, List.all_eq_true]
  exact ⟨⟨by omega, h3⟩, h1⟩

/-- The run of hexadecimal digits of an element with what follows it at a colon (or nothing). -/
theorem run_elem (f R : List UInt8) (hR : R = [] ∨ ∃ t, R = 58 :: t) :
    (∀ x ∈ f, hx x = true) ∧ (f ++ R).takeWhile hx = f ∧ (f ++ R).dropWhile hx = R ∨
    ∃ y t, f.dropWhile hx = y :: t ∧ hx y = false ∧ (f ++ R).takeWhile hx = f.takeWhile hx ∧ (f ++ R).dropWhile hx = y :: (t ++ R) := by
  rcases dw_head hx f with h | ⟨y, t, h, hy⟩
  · left
    have hf : f = f.takeWhile hx := by
      have := split_tw hx f; rw [h, List.append_nil] at this; exact this
    have hall : ∀ x ∈ f, hx x = true := by rw [hf]; exact tw_mem hx f
    refine ⟨hall, ?_⟩
    rcases hR with rfl | ⟨t, rfl⟩
    · rw [List.append_nil]; exact ⟨hf.symm, h⟩
    · have e := tw_app hx f 58 t hall (by decide)
      refine ⟨e, ?_⟩
      rw [← drop_tw, e, List.drop_left]
  · right
    have hf := split_tw hx f
    rw [h] at hf
    have hall := tw_mem hx f
    have e : (f ++ R).takeWhile hx = f.takeWhile hx := by
      conv => lhs; rw [hf]
      rw [List.append_assoc, List.cons_append]
      exact tw_app hx _ y _ hall hy
    refine ⟨y, t, h, hy, e, ?_⟩
    have hfR : f ++ R = f.takeWhile hx ++ y :: (t ++ R) := by
      conv => lhs; rw [hf]
      simp
    rw [← drop_tw, e, hfR, List.drop_left]

theorem not_okG (f : List UInt8) (y : UInt8) (t : List UInt8) (h : f.dropWhile hx = y :: t) (hy : hx y = false) : okG f = false := by
  cases ho : okG f
  · rfl
  · have hall := (okG_hx f ho).1
    have : y ∈ f := by rw [split_tw hx f, h]; simp
    rw [hall y this] at hy; cases hy

/-- One element: what the parser makes of it. 'R': what follows it. -/
theorem T_elem (fu : Nat) (f R : List UInt8) (g : Nat) (e : Bool) (hf58 : ∀ x ∈ f, x ≠ 58) (hR : R = [] ∨ ∃ t, R = 58 :: t) :
    T (fu + 1) (f ++ R) g e =
      if R = [] ∧ f.contains 46 = true then (if v4 f then fin (g + 2) e else false)
      else if okG f then S fu R (g + 1) e else false := by
  rcases run_elem f R hR with ⟨hall, htw, hdw⟩ | ⟨y, t, h, hy, htw, hdw⟩
  · -- all hexadecimal
    have hnd : f.contains 46 = false := by
      cases hc : f.contains 46
      · rfl
      · rw [List.contains_iff_mem] at hc
        exact absurd rfl (hx_ne 46 (hall 46 hc)).2
    rw [if_neg (by rw [hnd]; simp)]
    have h46 : ((f ++ R).dropWhile hx).head? ≠ some 46 := by
      rw [hdw]
      rcases hR with rfl | ⟨t, rfl⟩ <;> simp
    by_cases hl : f.length = 0 ∨ 4 < f.length
    · have ho : okG f = false := by
        cases ho : okG f
        · rfl
        · have := okG_hx f ho; omega
      rw [T_bad fu (f ++ R) g e h46 (by rw [htw]; exact hl), ho]; rfl
    · rw [T_S fu (f ++ R) g e h46 (by rw [htw]; omega) (by rw [htw]; omega), hdw, hx_okG f hall (by omega) (by omega)]; rfl
  · have ho := not_okG f y t h hy
    have hyf : y ∈ f := by rw [split_tw hx f, h]; simp
    rw [ho]
    by_cases h46 : y = 46
    · have hc : f.contains 46 = true := by
        rw [List.contains_iff_mem, ← h46]; exact hyf
      rw [T_dot fu (f ++ R) g e (by rw [hdw, h46]; rfl)]
      rcases hR with rfl | ⟨t', rfl⟩
      · rw [if_pos (show ([] : List UInt8) = [] ∧ f.contains 46 = true from ⟨rfl, hc⟩), List.append_nil]
      · rw [v4_no (f ++ 58 :: t') 58 (by simp) rfl]; simp
    · have hT : T (fu + 1) (f ++ R) g e = false := by
        by_cases hl : (f.takeWhile hx).length = 0 ∨ 4 < (f.takeWhile hx).length
        · exact T_bad fu (f ++ R) g e (by rw [hdw]; simpa using h46) (by rw [htw]; exact hl)
        · rw [T_S fu (f ++ R) g e (by rw [hdw]; simpa using h46) (by rw [htw]; omega) (by rw [htw]; omega), hdw, S_pos _ _ _ _ _ (by omega), if_neg (hf58 y hyf)]
      rw [hT]
      split
      · have : v4 f = false := by
          cases hv : v4 f
          · rfl
          · have := (s4_dot f hv).1
            rw [h] at this
            simp at this
            exact absurd this h46
        rw [this]; rfl
      · rfl

theorem je_head (a : List UInt8) (r : List (List UInt8)) (ha : ∀ x ∈ a, x ≠ 58) (h : a ≠ [] ∨ r = []) : (je a r).head? ≠ some 58 := by
  cases a with
  | nil =>
    rcases h with h | rfl
    · exact absurd rfl h
    · simp [je]
  | cons x a =>
    rw [je_cons]
    simp only [List.head?_cons, ne_eq, Option.some.injEq]
    exact ha x (List.mem_cons_self ..)

theorem je_len (f : List UInt8) (a : List UInt8) (r : List (List UInt8)) : (je f (a :: r)).length = f.length + 1 + (je a r).length := by
  show (f ++ 58 :: je a r).length = _
  simp; omega

/-- LEMMA A: a part without '::' (or behind one). -/
theorem lemA : ∀ (r : List (List UInt8)) (f : List UInt8) (fu g : Nat) (e : Bool), (∀ x ∈ f, x ≠ 58) → (∀ a ∈ r, ∀ x ∈ a, x ≠ 58) → (e = true ∨ ∀ a ∈ r.dropLast, a ≠ []) → (je f r).length < fu →
    T fu (je f r) g e = fin? (G true f r) g e
  | [], f, fu, g, e, hf, _, _, hfu => by
    obtain ⟨k, rfl⟩ : ∃ k, fu = k + 1 := ⟨fu - 1, by omega⟩
    have h := T_elem k f [] g e hf (.inl rfl)
    rw [List.append_nil] at h
    show T (k + 1) f g e = _
    rw [h]
    unfold G
    cases hc : f.contains 46
    · rw [if_neg (by simp), S_nil]
      cases okG f <;> simp [fin?]
    · rw [if_pos (by simp)]
      cases v4 f <;> simp [fin?]
  | a :: r, f, fu, g, e, hf, hr, hd, hfu => by
    obtain ⟨k, rfl⟩ : ∃ k, fu = k + 1 := ⟨fu - 1, by omega⟩
    have ha : ∀ x ∈ a, x ≠ 58 := hr a (List.mem_cons_self ..)
    have hr' : ∀ b ∈ r, ∀ x ∈ b, x ≠ 58 := fun b hb => hr b (List.mem_cons_of_mem _ hb)
    have h := T_elem k f (58 :: je a r) g e hf (.inr ⟨_, rfl⟩)
    show T (k + 1) (f ++ 58 :: je a r) g e = _
    rw [h, if_neg (by simp), S_pos _ _ _ _ _ (by omega), if_pos rfl]
    unfold G
    cases ho : okG f
    · rfl
    · rw [if_pos rfl, if_pos rfl]
      have hlen := je_len f a r
      have hmap : fin? ((G true a r).map (· + 1)) g e = fin? (G true a r) (g + 1) e := by
        cases G true a r with
        | none => rfl
        | some c => show fin (g + (c + 1)) e = fin (g + 1 + c) e; congr 1; omega
      rw [hmap]
      by_cases hh : a ≠ [] ∨ r = []
      · rw [Sc_one _ _ _ _ (je_head a r ha hh)]
        refine lemA r a k (g + 1) e ha hr' ?_ (by omega)
        rcases hd with h | h
        · exact .inl h
        · right
          intro b hb
          refine h b ?_
          cases r with
          | nil => simp at hb
          | cons c r => rw [List.dropLast_cons_of_ne_nil (by simp)]; exact List.mem_cons_of_mem _ hb
      · have ha0 : a = [] := Classical.byContradiction fun h => hh (.inl h)
        have hr0 : r ≠ [] := fun h => hh (.inr h)
        subst ha0
        cases r with
        | nil => exact absurd rfl hr0
        | cons b r =>
          rcases hd with h | h
          · subst h
            show Sc k (58 :: je b r) (g + 1) true = _
            rw [Sc_two]
            have : G true [] (b :: r) = none := rfl
            rw [this]; rfl
          · exact absurd rfl (h [] (by rw [List.dropLast_cons_of_ne_nil (by simp)]; exact List.mem_cons_self ..))

/-- LEMMA B: the part ahead of the first '::'. -/
theorem lemB (B : List UInt8) : ∀ (r : List (List UInt8)) (f : List UInt8) (fu g : Nat), (∀ x ∈ f, x ≠ 58) → (∀ a ∈ r, ∀ x ∈ a, x ≠ 58) → (∀ a ∈ r, a ≠ []) → (je f r).length + 2 + B.length < fu →
    ∃ k, B.length < k ∧ T fu (je f r ++ 58 :: 58 :: B) g false = match G false f r with | none => false | some c => if B = [] then fin (g + c) true else T k B (g + c) true
  | [], f, fu, g, hf, _, _, hfu => by
    obtain ⟨k, rfl⟩ : ∃ k, fu = k + 1 := ⟨fu - 1, by omega⟩
    have hlen : (je f []).length = f.length := rfl
    refine ⟨k, by omega, ?_⟩
    show T (k + 1) (f ++ 58 :: 58 :: B) g false = _
    rw [T_elem k f (58 :: 58 :: B) g false hf (.inr ⟨_, rfl⟩), if_neg (by simp), S_pos _ _ _ _ _ (by omega), if_pos rfl, Sc_two]
    unfold G
    cases okG f <;> simp
  | a :: r, f, fu, g, hf, hr, hne, hfu => by
    obtain ⟨k, rfl⟩ : ∃ k, fu = k + 1 := ⟨fu - 1, by omega⟩
    have ha : ∀ x ∈ a, x ≠ 58 := hr a (List.mem_cons_self ..)
    have hlen := je_len f a r
    obtain ⟨k2, hk2, ih⟩ := lemB B r a k (g + 1) ha (fun b hb => hr b (List.mem_cons_of_mem _ hb)) (fun b hb => hne b (List.mem_cons_of_mem _ hb)) (by omega)
    refine ⟨k2, hk2, ?_⟩
    have e1 : je f (a :: r) ++ 58 :: 58 :: B = f ++ 58 :: (je a r ++ 58 :: 58 :: B) := by
      show (f ++ 58 :: je a r) ++ _ = _
      simp
    rw [e1, T_elem k f (58 :: (je a r ++ 58 :: 58 :: B)) g false hf (.inr ⟨_, rfl⟩), if_neg (by simp), S_pos _ _ _ _ _ (by omega), if_pos rfl]
    unfold G
    cases ho : okG f
    · rfl
    · rw [if_pos rfl, if_pos rfl]
      have hh : (je a r ++ 58 :: 58 :: B).head? ≠ some 58 := by
        have h1 := je_head a r ha (.inl (hne a (List.mem_cons_self ..)))
        cases hj : je a r with
        | nil =>
          have hl := congrArg List.length hj
          cases a with
          | nil => exact absurd rfl (hne [] (List.mem_cons_self ..))
          | cons x a => rw [je_cons] at hj; simp at hj
        | cons y t => rw [hj] at h1; simpa using h1
      rw [Sc_one _ _ _ _ hh, ih]
      cases G false a r with
      | none => rfl
      | some c =>
        show (if B = [] then fin (g + 1 + c) true else T k2 B (g + 1 + c) true) = (if B = [] then fin (g + (c + 1)) true else T k2 B (g + (c + 1)) true)
        have : g + 1 + c = g + (c + 1) := by omega
        rw [this]

/-! ### the first '::' -/
def dbl : List UInt8 → Option Nat
  | [] => none
  | x :: t => if x = 58 ∧ t.head? = some 58 then some 0 else (dbl t).map (· + 1)

theorem dbl_some : ∀ (L : List UInt8) (d : Nat), dbl L = some d → ∃ A B, L = A ++ 58 :: 58 :: B ∧ A.length = d ∧ ∀ a ∈ (sp A).2, a ≠ []
  | [], d, h => by simp [dbl] at h
  | x :: t, d, h => by
    unfold dbl at h
    by_cases hc : x = 58 ∧ t.head? = some 58
    · rw [if_pos hc] at h
      obtain ⟨rfl, ht⟩ := hc
      cases t with
      | nil => simp at ht
      | cons y B =>
        simp only [List.head?_cons, Option.some.injEq] at ht
        subst ht
        simp only [Option.some.injEq] at h
        exact ⟨[], B, rfl, h, fun a ha => by simp [sp] at ha⟩
    · rw [if_neg hc] at h
      obtain ⟨d', hd', rfl⟩ := Option.map_eq_some_iff.1 h
      obtain ⟨A, B, rfl, hA, hall⟩ := dbl_some t d' hd'
      refine ⟨x :: A, B, rfl, by simp [hA], ?_⟩
      unfold sp
      split
      · rename_i hx
        intro a ha
        rcases List.mem_cons.1 ha with rfl | ha
        · intro h0
          apply hc
          refine ⟨hx, ?_⟩
          cases A with
          | nil => rfl
          | cons y A =>
            unfold sp at h0
            split at h0
            · rename_i hy; rw [hy]; rfl
            · simp at h0
        · exact hall a ha
      · exact hall

theorem dbl_none : ∀ (L : List UInt8), dbl L = none → ∀ a ∈ (sp L).2.dropLast, a ≠ []
  | [], _ => fun a ha => by simp [sp] at ha
  | x :: t, h => by
    unfold dbl at h
    by_cases hc : x = 58 ∧ t.head? = some 58
    · rw [if_pos hc] at h; cases h
    · rw [if_neg hc] at h
      have ih := dbl_none t (Option.map_eq_none_iff.1 h)
      unfold sp
      split
      · rename_i hx
        intro a ha
        cases hr : (sp t).2 with
        | nil => simp [hr] at ha
        | cons b r =>
          simp only [hr] at ha
          rw [List.dropLast_cons_of_ne_nil (by simp)] at ha
          rcases List.mem_cons.1 ha with rfl | ha
          · intro h0
            apply hc
            refine ⟨hx, ?_⟩
            cases t with
            | nil => simp [sp] at hr
            | cons y t =>
              unfold sp at h0
              split at h0
              · rename_i hy; rw [hy]; rfl
              · simp at h0
          · exact ih a (by rw [hr]; exact ha)
      · exact ih

/-! ### the two answers -/
def mod6 (A : List UInt8) : Bool :=
  match dbl A with
  | none => (match mg true A with | some n => decide (n = 8) | none => false)
  | some d => (match mg false (A.take d), mg true (A.drop (d + 2)) with | some nl, some nr => decide (nl + nr ≤ 7) | _, _ => false)

def par6 (A : List UInt8) : Bool :=
  match A with
  | 58 :: 58 :: B => S (B.length + 1) B 0 true
  | A => S (A.length + 1) A 0 false

theorem T_mg (k : Nat) (B : List UInt8) (g : Nat) (hB : B ≠ []) (hk : B.length < k) : T k B g true = fin? (mg true B) g true := by
  have hj := sp_je B
  have hfr := sp_free B
  have := lemA (sp B).2 (sp B).1 k g true hfr.1 hfr.2 (.inl rfl) (by rw [hj]; exact hk)
  rw [hj] at this
  rw [this]
  unfold mg
  rw [if_neg hB]

theorem fin_true (n : Nat) : fin n true = decide (n ≤ 7) := by
  unfold fin
  simp
  omega
theorem fin_false (n : Nat) : fin n false = decide (n = 8) := by
  unfold fin
  simp

theorem par_mod (A : List UInt8) : par6 A = mod6 A := by
  cases hd : dbl A with
  | none =>
    have h1 : par6 A = S (A.length + 1) A 0 false := by
      unfold par6
      split
      · rename_i B
        exfalso
        have : dbl (58 :: 58 :: B) = some 0 := by unfold dbl; rw [if_pos ⟨rfl, rfl⟩]
        rw [this] at hd; cases hd
      · rfl
    rw [h1]
    unfold mod6
    rw [hd]
    cases A with
    | nil => rfl
    | cons x t =>
      rw [S_zero]
      have hj := sp_je (x :: t)
      have hfr := sp_free (x :: t)
      have := lemA (sp (x :: t)).2 (sp (x :: t)).1 ((x :: t).length + 1) 0 false hfr.1 hfr.2 (.inr (dbl_none _ hd)) (by rw [hj]; omega)
      rw [hj] at this
      rw [this]
      unfold mg
      rw [if_neg (by simp)]
      cases G true (sp (x :: t)).1 (sp (x :: t)).2 with
      | none => rfl
      | some c => show fin (0 + c) false = _; rw [fin_false, Nat.zero_add]
  | some d =>
    obtain ⟨A1, B, rfl, hA, hne⟩ := dbl_some A d hd
    have ht : (A1 ++ 58 :: 58 :: B).take d = A1 := by rw [← hA, List.take_left]
    have hdr : (A1 ++ 58 :: 58 :: B).drop (d + 2) = B := by rw [← hA, ← List.drop_drop, List.drop_left]; rfl
    unfold mod6
    rw [hd]
    simp only [ht, hdr]
    cases A1 with
    | nil =>
      show S (B.length + 1) B 0 true = _
      have hm0 : mg false [] = some 0 := rfl
      rw [hm0]
      cases B with
      | nil => rfl
      | cons x t =>
        rw [S_zero, T_mg _ _ _ (by simp) (by omega)]
        cases mg true (x :: t) with
        | none => rfl
        | some c => show fin (0 + c) true = decide (0 + c ≤ 7); rw [fin_true]
    | cons x A1 =>
      have h1 : par6 (x :: A1 ++ 58 :: 58 :: B) = S ((x :: A1 ++ 58 :: 58 :: B).length + 1) (x :: A1 ++ 58 :: 58 :: B) 0 false := by
        unfold par6
        split
        · rename_i B' heq
          exfalso
          rw [heq] at hd
          have : dbl (58 :: 58 :: B') = some 0 := by unfold dbl; rw [if_pos ⟨rfl, rfl⟩]
          rw [this] at hd
          simp only [Option.some.injEq] at hd
          rw [← hd] at hA; simp at hA
        · rfl
      rw [h1, List.cons_append, S_zero, ← List.cons_append]
      have hj := sp_je (x :: A1)
      have hfr := sp_free (x :: A1)
      obtain ⟨k, hk, hB⟩ := lemB B (sp (x :: A1)).2 (sp (x :: A1)).1 ((x :: A1 ++ 58 :: 58 :: B).length + 1) 0 hfr.1 hfr.2 hne (by rw [hj]; simp; omega)
      rw [hj] at hB
      rw [hB]
      have hm1 : mg false (x :: A1) = G false (sp (x :: A1)).1 (sp (x :: A1)).2 := by unfold mg; rw [if_neg (by simp)]
      rw [hm1]
      cases G false (sp (x :: A1)).1 (sp (x :: A1)).2 with
      | none => rfl
      | some c =>
        show (if B = [] then fin (0 + c) true else T k B (0 + c) true) = _
        by_cases hB0 : B = []
        · subst hB0
          rw [if_pos rfl, fin_true]
          show _ = decide (c + 0 ≤ 7)
          congr 2; omega
        · rw [if_neg hB0, T_mg k B _ hB0 hk]
          cases mg true B with
          | none => rfl
          | some n => show fin (0 + c + n) true = decide (c + n ≤ 7); rw [fin_true, Nat.zero_add]

end Go.Proofs.Qxb6605312a.Pl
