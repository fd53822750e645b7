import Derived.Test.Qxb6605428aOwnB
import Derived.Deep.QuietTactic
import Derived.BigQuiet
namespace Go.Proofs.Qxb6605428a
open Go.RowKit

theorem skipValue_quote_r (s : ByteArray) (i : Nat) (hs : s.size ≤ 1099511627776) (h : i < s.size) (hx : Hid (by8 s i = 34)) (r : Int) (hr : Hid (Pl.skipStr s.data.toList i = r)) (w : World) :
    Calls Try.prog 12 #[.string s, .int .i64 i] w fun e w' => e = .returned (.int .i64 r) ∧ w' = w := by
  have := skipValue_quote s i hs h hx.out w
  rw [hr.out] at this
  exact this

theorem by8_at (s : ByteArray) (p : List UInt8) (x : UInt8) (r : List UInt8) (h : s.data.toList = p ++ x :: r) : by8 s p.length = x ∧ p.length < s.size := by
  constructor
  · unfold by8; rw [h]; simp
  · have := size_list s; rw [h] at this; simp at this; omega

/-- What the built text holds. -/
structure Raw (raw : ByteArray) (p : List UInt8) (ss : List ByteArray) (n : Nat) : Prop where
  sz : raw.size ≤ 1099511627776
  op : p.length < raw.size
  op8 : by8 raw p.length = 91
  all : ∃ f, raw.size < f + p.length ∧ Pl.valGo f raw.data.toList p.length 0 = ((p.length + 1 + (txt ss n).length + 1 : Nat) : Int)
  lt : ∀ k, k < n → Sx p ss k < raw.size
  q : ∀ k, k < n → by8 raw (Sx p ss k) = 34
  skip : ∀ k, k < n → Pl.skipStr raw.data.toList (Sx p ss k) = (Ex p ss k : Int)
  elt : ∀ k, k < n → Ex p ss k < raw.size
  e8 : ∀ k, k < n → by8 raw (Ex p ss k) = 44 ∨ by8 raw (Ex p ss k) = 93

theorem txt_split (ss : List ByteArray) (k : Nat) (hk : k < ss.length) : txt ss ss.length = txt ss (k + 1) ++ Pl.tailT ((ss.drop (k + 1)).map toL) := by
  unfold txt
  have e : ss.take ss.length = ss.take k ++ ss[k] :: ss.drop (k + 1) := by
    rw [List.take_length, ← List.drop_eq_getElem_cons hk, List.take_append_drop]
  rw [e, List.map_append, List.map_cons, Pl.body_append, List.take_succ_eq_append_getElem hk, List.map_append, List.map_cons, List.map_nil]

theorem raw_arr (raw : ByteArray) (p suf : List UInt8) (ss : List ByteArray) (n : Nat) (hl : ss.length = n) (hraw : raw.data.toList = p ++ 91 :: (txt ss n ++ 93 :: suf)) (hsz : raw.size ≤ 1099511627776) : Raw raw p ss n := by
  subst hl
  have hS := size_list raw
  have key : ∀ k, k < ss.length → ∃ c r, raw.data.toList = (p ++ 91 :: (txt ss k ++ (if k = 0 then [] else [44]))) ++ (Pl.quoted c ++ r) ∧
      (p ++ 91 :: (txt ss k ++ (if k = 0 then [] else [44]))).length = Sx p ss k ∧ Sx p ss k + (Pl.quoted c).length = Ex p ss k ∧
      ∃ x y, raw.data.toList = (p ++ 91 :: txt ss (k + 1)) ++ x :: y ∧ (p ++ 91 :: txt ss (k + 1)).length = Ex p ss k ∧ (x = 44 ∨ x = 93) := by
    intro k hk
    refine ⟨toL (ss.getD k ByteArray.empty), Pl.tailT ((ss.drop (k + 1)).map toL) ++ 93 :: suf, ?_, ?_, ?_, ?_⟩
    · rw [hraw, txt_split ss k hk, txt_succ ss k hk]; simp
    · unfold Sx; split <;> simp <;> omega
    · unfold Sx Ex; rw [txt_succ ss k hk]; split <;> simp <;> omega
    · cases hd : ss.drop (k + 1) with
      | nil =>
        refine ⟨93, suf, ?_, ?_, .inr rfl⟩
        · rw [hraw, txt_split ss k hk, hd]; simp [Pl.tailT]
        · unfold Ex; simp; omega
      | cons s r =>
        refine ⟨44, Pl.quoted (toL s) ++ Pl.tailT (r.map toL) ++ 93 :: suf, ?_, ?_, .inl rfl⟩
        · rw [hraw, txt_split ss k hk, hd]; simp [Pl.tailT]
        · unfold Ex; simp; omega
  have h0 := by8_at raw p 91 _ hraw
  refine ⟨hsz, h0.2, h0.1, ⟨raw.size + 1, by omega, ?_⟩, fun k hk => ?_, fun k hk => ?_, fun k hk => ?_, fun k hk => ?_, fun k hk => ?_⟩
  · rw [hraw]
    have := Pl.valGo_arr p suf ((ss.take ss.length).map toL) (raw.size + 1) (by
      have e : (p ++ 91 :: (Pl.body ((ss.take ss.length).map toL) ++ 93 :: suf)).length = raw.size := by rw [← hS, hraw]; rfl
      rw [e]; omega)
    exact this
  · obtain ⟨c, r, e1, e2, _⟩ := key k hk
    obtain ⟨t, ht⟩ := Pl.quoted_head c r
    rw [ht] at e1
    rw [← e2]; exact (by8_at raw _ 34 t e1).2
  · obtain ⟨c, r, e1, e2, _⟩ := key k hk
    obtain ⟨t, ht⟩ := Pl.quoted_head c r
    rw [ht] at e1
    rw [← e2]; exact (by8_at raw _ 34 t e1).1
  · obtain ⟨c, r, e1, e2, e3, _⟩ := key k hk
    rw [← e3, e1, ← e2]; exact Pl.skipStr_quoted _ _ _
  · obtain ⟨c, r, _, _, _, x, y, e4, e5, _⟩ := key k hk
    rw [← e5]; exact (by8_at raw _ x y e4).2
  · obtain ⟨c, r, _, _, _, x, y, e4, e5, e6⟩ := key k hk
    have := (by8_at raw _ x y e4).1
    rw [e5] at this
    rw [this]; exact e6

end Go.Proofs.Qxb6605428a
