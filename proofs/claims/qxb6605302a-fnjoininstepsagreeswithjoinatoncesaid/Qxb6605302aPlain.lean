/-
  Plain mathematics for seat b6605302a: join, in steps and at once; no Go in sight.
-/
namespace Go.Proofs.Qxb6605302a.Pl

def ampT (r : List (List UInt8)) : List UInt8 := r.flatMap fun x => 38 :: x
def amp : List (List UInt8) → List UInt8
  | [] => []
  | x :: r => x ++ ampT r

theorem ampT_append (a b : List (List UInt8)) : ampT (a ++ b) = ampT a ++ ampT b := by simp [ampT]

theorem amp_append (a b : List (List UInt8)) (ha : a ≠ []) (hb : b ≠ []) : amp (a ++ b) = amp a ++ 38 :: amp b := by
  cases a with
  | nil => exact absurd rfl ha
  | cons x a =>
    cases b with
    | nil => exact absurd rfl hb
    | cons y b => simp [amp, ampT]

theorem amp_snoc (a : List (List UInt8)) (x : List UInt8) : amp (a ++ [x]) = amp a ++ (if a = [] then [] else [38]) ++ x := by
  cases a with
  | nil => simp [amp, ampT]
  | cons y a => simp [amp, ampT]

/-- What ends with x, x not empty, ends as x does. -/
theorem getLast_append (a x : List UInt8) (hx : x ≠ []) : (a ++ x).getLast? = x.getLast? := by
  rw [List.getLast?_append]
  cases h : x.getLast? with
  | none => exact absurd (List.getLast?_eq_none_iff.1 h) hx
  | some y => rfl

def sepOf (B : List UInt8) : List UInt8 :=
  if B.getLast? = some 63 ∨ B.getLast? = some 38 then [] else if 63 ∈ B then [38] else [63]

def J (B : List UInt8) (P : List (List UInt8)) : List UInt8 := B ++ sepOf B ++ amp P

theorem sepOf_le (B : List UInt8) : (sepOf B).length ≤ 1 := by
  unfold sepOf; split
  · simp
  · split <;> simp

theorem amp_end (P : List (List UInt8)) (x : List UInt8) (hx : x ≠ []) : (amp (P ++ [x])).getLast? = x.getLast? := by
  rw [amp_snoc]; exact getLast_append _ _ hx

theorem step (B x : List UInt8) (P Q : List (List UInt8)) (hx : x ≠ []) (h63 : x.getLast? ≠ some 63) (h38 : x.getLast? ≠ some 38) (hB : B.getLast? = some 38 → 63 ∈ B) (hQ : Q ≠ []) :
    J (J B (P ++ [x])) Q = J B ((P ++ [x]) ++ Q) := by
  have hl : (J B (P ++ [x])).getLast? = x.getLast? := by
    unfold J
    rw [getLast_append _ _ (by rw [amp_snoc]; simp [hx]), amp_end P x hx]
  have hm : 63 ∈ J B (P ++ [x]) := by
    unfold J
    by_cases h : 63 ∈ B
    · simp [h]
    · have hs : sepOf B = [63] := by
        unfold sepOf
        have h1 : ¬ (B.getLast? = some 63 ∨ B.getLast? = some 38) := by
          rintro (e | e)
          · exact h (List.mem_of_getLast? e)
          · exact h (hB e)
        rw [if_neg h1, if_neg h]
      simp [hs]
  have hs : sepOf (J B (P ++ [x])) = [38] := by
    unfold sepOf
    rw [hl, if_neg (by rintro (e | e); exact h63 e; exact h38 e), if_pos hm]
  have e : J (J B (P ++ [x])) Q = J B (P ++ [x]) ++ sepOf (J B (P ++ [x])) ++ amp Q := rfl
  rw [e, hs]
  unfold J
  rw [amp_append (P ++ [x]) Q (by simp) hQ]
  simp

theorem amp_le (P : List (List UInt8)) : (amp P).length ≤ (P.map List.length).sum + P.length := by
  have hT : ∀ r : List (List UInt8), (ampT r).length = (r.map List.length).sum + r.length := by
    intro r
    induction r with
    | nil => rfl
    | cons x r ih =>
      have e : ampT (x :: r) = 38 :: x ++ ampT r := by simp [ampT]
      rw [e, List.length_append, ih]; simp; omega
  cases P with
  | nil => simp [amp]
  | cons x r => simp only [amp, List.length_append, hT]; simp; omega

end Go.Proofs.Qxb6605302a.Pl
