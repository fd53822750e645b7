/-
  Plain mathematics for seat b6605312a: IPv4 and IPv6 texts; no Go in sight.
-/
namespace Go.Proofs.Qxb6605312a.Pl

def dg (c : UInt8) : Bool := decide (48 ≤ c.toNat) && decide (c.toNat ≤ 57)
def hx (c : UInt8) : Bool := (decide (48 ≤ c.toNat) && decide (c.toNat ≤ 57)) || (decide (97 ≤ c.toNat) && decide (c.toNat ≤ 102)) || (decide (65 ≤ c.toNat) && decide (c.toNat ≤ 70))
theorem dg_hx (c : UInt8) (h : dg c = true) : hx c = true := by
  unfold dg at h; unfold hx; rw [h]; rfl
theorem hx_ne (c : UInt8) (h : hx c = true) : c ≠ 58 ∧ c ≠ 46 := by
  constructor <;> (intro e; rw [e] at h; exact absurd h (by decide))
theorem dg_ne (c : UInt8) (h : dg c = true) : c ≠ 58 ∧ c ≠ 46 := hx_ne c (dg_hx c h)

def val (f : List UInt8) : Nat := f.foldl (fun v c => v * 10 + (c.toNat - 48)) 0
theorem val_snoc (f : List UInt8) (c : UInt8) : val (f ++ [c]) = val f * 10 + (c.toNat - 48) := by simp [val]
def okF (f : List UInt8) : Bool := decide (1 ≤ f.length) && decide (f.length ≤ 3) && !(decide (1 < f.length) && f.head? == some 48) && f.all dg && decide (val f ≤ 255)

/-! ### general facts on runs -/
theorem tw_len (f : UInt8 → Bool) (L : List UInt8) : ∀ k, k ≤ L.length → (∀ j (h : j < L.length), j < k → f L[j] = true) → (∀ h : k < L.length, f L[k] = false) → (L.takeWhile f).length = k := by
  induction L with
  | nil => intro k hk _ _; simp at hk; simp [hk]
  | cons x L ih =>
    intro k hk h1 h2
    cases k with
    | zero =>
      have := h2 (by simp)
      simp only [List.getElem_cons_zero] at this
      simp [this]
    | succ k =>
      have hx := h1 0 (by simp) (by omega)
      simp only [List.getElem_cons_zero] at hx
      rw [List.takeWhile_cons, if_pos hx, List.length_cons]
      congr 1
      refine ih k (by simpa using hk) (fun j h hj => ?_) (fun h => ?_)
      · have := h1 (j + 1) (by simpa using h) (by omega)
        simpa using this
      · have := h2 (by simpa using h)
        simpa using this
theorem take_tw (f : UInt8 → Bool) (L : List UInt8) : L.take (L.takeWhile f).length = L.takeWhile f := by
  induction L with
  | nil => rfl
  | cons x L ih =>
    rw [List.takeWhile_cons]
    split
    · simp [ih]
    · simp
theorem drop_tw (f : UInt8 → Bool) (L : List UInt8) : L.drop (L.takeWhile f).length = L.dropWhile f := by
  induction L with
  | nil => rfl
  | cons x L ih =>
    rw [List.takeWhile_cons, List.dropWhile_cons]
    split
    · simpa using ih
    · rfl
theorem tw_all (f : UInt8 → Bool) (L : List UInt8) (h : ∀ x ∈ L, f x = true) : L.takeWhile f = L := by
  induction L with
  | nil => rfl
  | cons x L ih => rw [List.takeWhile_cons, if_pos (h x (List.mem_cons_self ..)), ih (fun y hy => h y (List.mem_cons_of_mem _ hy))]
/-- A run that ends inside. -/
theorem tw_app (f : UInt8 → Bool) (A : List UInt8) (y : UInt8) (B : List UInt8) (hA : ∀ x ∈ A, f x = true) (hy : f y = false) : (A ++ y :: B).takeWhile f = A := by
  induction A with
  | nil => simp [hy]
  | cons x A ih => rw [List.cons_append, List.takeWhile_cons, if_pos (hA x (List.mem_cons_self ..)), ih (fun z hz => hA z (List.mem_cons_of_mem _ hz))]
theorem tw_mem (f : UInt8 → Bool) (L : List UInt8) : ∀ x ∈ L.takeWhile f, f x = true := fun x hx => List.all_eq_true.1 List.all_takeWhile x hx
/-- What stands behind a run. -/
theorem dw_head (f : UInt8 → Bool) (L : List UInt8) : L.dropWhile f = [] ∨ ∃ y t, L.dropWhile f = y :: t ∧ f y = false := by
  induction L with
  | nil => exact .inl rfl
  | cons x L ih =>
    rw [List.dropWhile_cons]
    cases h : f x
    · right; exact ⟨x, L, by simp, h⟩
    · simpa using ih
theorem split_tw (f : UInt8 → Bool) (L : List UInt8) : L = L.takeWhile f ++ L.dropWhile f := List.takeWhile_append_dropWhile.symm

/-! ### IPv4: by parsing, and by splitting -/
def digs (L : List UInt8) : List UInt8 := (L.take 3).takeWhile dg
def p4 : Nat → List UInt8 → Bool
  | 0, L => okF (digs L) && (L.drop (digs L).length).isEmpty
  | k + 1, L => okF (digs L) && match L.drop (digs L).length with | 46 :: t => p4 k t | _ => false
def fld (L : List UInt8) : List UInt8 := L.takeWhile (· != 46)
def rst (L : List UInt8) : List UInt8 := L.dropWhile (· != 46)
def s4 : Nat → List UInt8 → Bool
  | 0, L => okF (fld L) && (rst L).isEmpty
  | k + 1, L => okF (fld L) && match rst L with | 46 :: t => s4 k t | _ => false

theorem okF_dg (f : List UInt8) (h : okF f = true) : (∀ x ∈ f, dg x = true) ∧ 1 ≤ f.length ∧ f.length ≤ 3 := by
  simp only [okF, Bool.and_eq_true, decide_eq_true_iff, List.all_eq_true] at h
  exact ⟨h.1.2, h.1.1.1.1, h.1.1.1.2⟩

theorem rst_cases (L : List UInt8) : rst L = [] ∨ ∃ t, rst L = 46 :: t := by
  rcases dw_head (· != 46) L with h | ⟨y, t, h, hy⟩
  · exact .inl h
  · right
    have : y = 46 := by simpa using hy
    exact ⟨t, by unfold rst; rw [h, this]⟩

/-- Where the field splits off well, the parse takes just it. -/
theorem digs_fld (L : List UInt8) (h : okF (fld L) = true) : digs L = fld L ∧ L.drop (digs L).length = rst L := by
  obtain ⟨hd, h1, h3⟩ := okF_dg _ h
  have hL : L = fld L ++ rst L := split_tw _ _
  have e : digs L = fld L := by
    unfold digs
    rcases rst_cases L with hr | ⟨t, hr⟩
    · have hLf : L = fld L := by rw [hr, List.append_nil] at hL; exact hL
      rw [List.take_of_length_le (by rw [hLf]; exact h3)]
      rw [← hLf] at hd
      rw [tw_all dg L hd]; exact hLf
    · rw [hr] at hL
      by_cases h33 : (fld L).length = 3
      · have : L.take 3 = fld L := by
          conv => lhs; rw [hL]
          rw [← h33, List.take_left]
        rw [this, tw_all dg _ hd]
      · have : L.take 3 = fld L ++ 46 :: t.take (3 - (fld L).length - 1) := by
          conv => lhs; rw [hL]
          rw [List.take_append]
          rw [List.take_of_length_le (by omega)]
          have e3 : 3 - (fld L).length = (3 - (fld L).length - 1) + 1 := by omega
          rw [e3, List.take_succ_cons]
          simp
        rw [this, tw_app dg _ _ _ hd (by decide)]
  refine ⟨e, ?_⟩
  rw [e]
  unfold fld rst
  exact drop_tw _ _

/-- Where the parse goes on at a dot or ends, the field is just what it took. -/
theorem fld_digs (L : List UInt8) (h : L.drop (digs L).length = [] ∨ ∃ t, L.drop (digs L).length = 46 :: t) : fld L = digs L ∧ rst L = L.drop (digs L).length := by
  have hd : ∀ x ∈ digs L, dg x = true := tw_mem dg _
  have hpre : L = digs L ++ L.drop (digs L).length := by
    have : digs L = L.take (digs L).length := by
      have h1 := take_tw dg (L.take 3)
      have h2 : (digs L).length ≤ 3 := by
        unfold digs
        refine Nat.le_trans (List.takeWhile_sublist _).length_le ?_
        rw [List.length_take]; omega
      unfold digs at h2 ⊢
      rw [List.take_take, Nat.min_eq_left h2] at h1
      exact h1.symm
    conv => lhs; rw [← List.take_append_drop (digs L).length L]
    rw [← this]
  have hne : ∀ x ∈ digs L, (x != 46) = true := fun x hx => by simpa using (dg_ne x (hd x hx)).2
  rcases h with h | ⟨t, h⟩
  · rw [h, List.append_nil] at hpre
    have h0 : ∀ x ∈ L, (x != 46) = true := by rw [hpre]; exact hne
    have e1 : fld L = L := tw_all _ L h0
    refine ⟨e1.trans hpre, ?_⟩
    rw [h]
    have := split_tw (· != 46) L
    unfold fld at e1
    rw [e1] at this
    unfold rst
    simpa using this
  · have e1 : fld L = digs L := by
      unfold fld
      conv => lhs; rw [hpre, h]
      exact tw_app _ _ _ _ hne (by decide)
    refine ⟨e1, ?_⟩
    rw [← e1]
    unfold rst fld
    exact (drop_tw _ _).symm

theorem p4_s4 : ∀ (k : Nat) (L : List UInt8), p4 k L = s4 k L
  | 0, L => by
    unfold p4 s4
    cases hf : okF (fld L)
    · rw [Bool.false_and]
      rw [Bool.and_eq_false_iff]
      cases hd : (L.drop (digs L).length).isEmpty
      · exact .inr rfl
      · left
        rw [← (fld_digs L (.inl (List.isEmpty_iff.1 hd))).1]; exact hf
    · obtain ⟨e1, e2⟩ := digs_fld L hf
      rw [e2, e1, hf]
  | k + 1, L => by
    unfold p4 s4
    cases hf : okF (fld L)
    · rw [Bool.false_and, Bool.and_eq_false_iff]
      cases hR : L.drop (digs L).length with
      | nil => exact .inr rfl
      | cons x t =>
        by_cases hx : x = 46
        · left
          rw [← (fld_digs L (.inr ⟨t, by rw [hR, hx]⟩)).1]; exact hf
        · right
          split
          · rename_i h; exact absurd (List.cons.inj h).1 hx
          · rfl
    · obtain ⟨e1, e2⟩ := digs_fld L hf
      rw [e2, e1, hf]
      rcases rst_cases L with h | ⟨t, h⟩
      · rw [h]
      · rw [h]; simp only [p4_s4 k t]

/-- Only digits and dots. -/
theorem s4_chars : ∀ (k : Nat) (L : List UInt8), s4 k L = true → ∀ x ∈ L, dg x = true ∨ x = 46
  | 0, L, h => by
    unfold s4 at h
    rw [Bool.and_eq_true] at h
    have hr := List.isEmpty_iff.1 h.2
    intro x hx
    rw [split_tw (· != 46) L] at hx
    unfold rst at hr
    rw [hr, List.append_nil] at hx
    exact .inl ((okF_dg _ h.1).1 x hx)
  | k + 1, L, h => by
    unfold s4 at h
    rw [Bool.and_eq_true] at h
    intro x hx
    rw [split_tw (· != 46) L] at hx
    rcases List.mem_append.1 hx with hx | hx
    · exact .inl ((okF_dg _ h.1).1 x hx)
    · rcases rst_cases L with hr | ⟨t, hr⟩
      · rw [hr] at h; exact absurd h.2 (by simp)
      · unfold rst at hr
        have h2 := h.2
        unfold rst at h2
        rw [hr] at hx h2
        rcases List.mem_cons.1 hx with hx | hx
        · exact .inr hx
        · exact s4_chars k t h2 x hx

/-- A text of four fields: digits, then a dot. -/
theorem s4_dot (L : List UInt8) (h : s4 3 L = true) : (L.dropWhile hx).head? = some 46 ∧ L.contains 46 = true := by
  unfold s4 at h
  rw [Bool.and_eq_true] at h
  rcases rst_cases L with hr | ⟨t, hr⟩
  · rw [hr] at h; exact absurd h.2 (by simp)
  · have hd := (okF_dg _ h.1).1
    have hL : L = fld L ++ 46 :: t := by rw [← hr]; exact split_tw _ _
    have e : L.takeWhile hx = fld L := by
      conv => lhs; rw [hL]
      exact tw_app hx _ _ _ (fun x hx => dg_hx x (hd x hx)) (by decide)
    constructor
    · rw [← drop_tw, e]
      unfold fld
      rw [drop_tw]
      unfold rst at hr
      rw [hr]; rfl
    · rw [hL]; simp

end Go.Proofs.Qxb6605312a.Pl
