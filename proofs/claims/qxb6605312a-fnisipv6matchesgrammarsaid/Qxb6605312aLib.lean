import Derived.Test.Qxb6605312aMod
import Derived.Lib.IndexLaws
import Derived.Lib.SlBytesConst
namespace Go.Proofs.Qxb6605312a
open Go.RowKit

def zs (bs : List UInt8) : List Int := bs.map fun x => (x.toNat : Int)
theorem zs_len (bs : List UInt8) : (zs bs).length = bs.length := by simp [zs]
theorem zs_get (bs : List UInt8) (k : Nat) : (zs bs).getD k 0 = ((bg bs k).toNat : Int) := by
  simp only [zs, bg, List.getD_eq_getElem?_getD, List.getElem?_map]
  cases bs[k]? <;> simp
theorem zs_bytes (bs : List UInt8) : Lib.bytesOf (zs bs) = bs := by
  simp only [Lib.bytesOf, zs, List.map_map]
  conv => rhs; rw [← List.map_id bs]
  congr 1
  funext x
  simp

theorem idx26 (ao : Option Addr) (n cap : Nat) (bs : List UInt8) (w : World) (hV : Vw w ao n cap bs) :
    Calls Try.prog 26 #[.slice ao n cap, .int .u8 37] w fun e w' => e = .returned (.int .i64 (Lib.indexByte bs 37)) ∧ w' = w := by
  cases ao with
  | none =>
    have hc := hV.nil rfl
    have hn : n = 0 := by have := hV.hc; omega
    subst hc
    subst hn
    have hb : bs = [] := List.eq_nil_of_length_eq_zero hV.len
    subst hb
    exact Try.bytes_IndexByte_nil 37 w
  | some a =>
    have h := Try.bytes_IndexByte_at a n cap (zs bs) 37 w (by rw [zs_len]; exact hV.len) (fun i hi => by rw [zs_get]; exact hV.cell i hi)
    rw [zs_bytes] at h
    exact h

theorem idx_facts (bs : List UInt8) : (Lib.indexByte bs 37 = -1 ∧ zn bs = some bs) ∨
    ∃ k : Nat, Lib.indexByte bs 37 = k ∧ k < bs.length ∧ zn bs = if k + 1 = bs.length then none else some (bs.take k) := by
  have hg := Lib.indexByte_ge bs 37
  by_cases h : Lib.indexByte bs 37 = -1
  · refine .inl ⟨h, zn_no bs fun j hj e => ?_⟩
    refine Lib.indexByte_none h j ?_
    rw [List.getElem?_eq_getElem hj, bg_eq bs j hj, e]
  · obtain ⟨k, hk⟩ : ∃ k : Nat, Lib.indexByte bs 37 = k := ⟨(Lib.indexByte bs 37).toNat, by omega⟩
    obtain ⟨h1, h2⟩ := Lib.indexByte_some hk
    have hlt : k < bs.length := by
      rcases Nat.lt_or_ge k bs.length with h | h
      · exact h
      · rw [List.getElem?_eq_none h] at h1; simp at h1
    refine .inr ⟨k, hk, hlt, zn_at bs k hlt (fun j hj e => ?_) ?_⟩
    · refine h2 j hj ?_
      rw [List.getElem?_eq_getElem (by omega), bg_eq bs j (by omega), e]
    · rw [List.getElem?_eq_getElem hlt, bg_eq bs k hlt] at h1; exact Option.some.inj h1

theorem Vw.bytesIn {w : World} {ao : Option Addr} {n cap : Nat} {bs : List UInt8} (h : Vw w ao n cap bs) : Lib.BytesIn w ao n (zs bs) := by
  cases ao with
  | none =>
    have hc := h.nil rfl
    have hn : n = 0 := by have := h.hc; omega
    subst hn
    exact Lib.BytesIn.nil _ _ _
  | some a => exact Lib.BytesIn.of_cells fun i hi => by rw [zs_get]; exact h.cell i hi

/-- The world behind []byte("::"). -/
def wc (w : World) : World := w.alloc (.cells #[.int .u8 58, .int .u8 58] 5 (2, 3))
theorem wc_below (w : World) : Below w.heap.size w (wc w) := (Below.refl _ w).alloc (Nat.le_refl _) _

theorem pre27 (ao : Option Addr) (n cap : Nat) (bs : List UInt8) (w : World) (hV : Vw w ao n cap bs) (r : Bool) (hr : Hid (r = Lib.hasPrefix bs [58, 58])) :
    Calls Try.prog 27 #[.slice ao n cap, .slice (some ⟨w.heap.size, 0, none⟩) 2 2] (wc w) fun e w' => e = .returned (.bool r) ∧ w' = wc w := by
  have h := Try.bytes_HasPrefix_all ao (some ⟨w.heap.size, 0, none⟩) n cap 2 2 (zs bs) [58, 58] (wc w) (by rw [zs_len]; exact hV.len) rfl hV.hc (hV.old (wc_below w)).bytesIn
    (Lib.BytesIn.of_cells fun i hi => by
      have hi2 : i = 0 ∨ i = 1 := by omega
      rcases hi2 with rfl | rfl
      · show (wc w).cell? ⟨w.heap.size, 0, none⟩ = _
        unfold wc; rw [World.cell?_alloc_mark]; rfl
      · show (wc w).cell? ⟨w.heap.size, 1, none⟩ = _
        unfold wc; rw [World.cell?_alloc_mark]; rfl)
  rw [zs_bytes] at h
  have e : Lib.bytesOf [58, 58] = [58, 58] := rfl
  rw [e, ← hr.out] at h
  exact h

theorem pre_par (bs : List UInt8) : (Lib.hasPrefix bs [58, 58] = true ∧ 2 ≤ bs.length ∧ Pl.par6 bs = Pl.S ((bs.drop 2).length + 1) (bs.drop 2) 0 true) ∨
    (Lib.hasPrefix bs [58, 58] = false ∧ Pl.par6 bs = Pl.S (bs.length + 1) bs 0 false) := by
  by_cases h : ∃ B, bs = 58 :: 58 :: B
  · obtain ⟨B, rfl⟩ := h
    exact .inl ⟨by simp [Lib.hasPrefix], by simp, rfl⟩
  · refine .inr ⟨?_, ?_⟩
    · rw [Bool.eq_false_iff]
      intro hp
      cases bs with
      | nil => simp [Lib.hasPrefix] at hp
      | cons x t =>
        cases t with
        | nil => simp [Lib.hasPrefix] at hp
        | cons y t =>
          simp [Lib.hasPrefix] at hp
          exact h ⟨t, by rw [← hp.1, ← hp.2]⟩
    · unfold Pl.par6
      split
      · rename_i B; exact absurd ⟨B, rfl⟩ h
      · rfl
end Go.Proofs.Qxb6605312a
