import Derived.Test.Qxb6605312aRows
import Derived.Test.Qxb6605312aPlain6
import Derived.Test.Qxb6605312aShelf
import Derived.WalkKit
import Derived.WalkSpells
import Derived.WalkLawsBesides
import Derived.Lib.Bytealg
import Derived.Lib.Strings
namespace Go.Proofs.Qxb6605312a
open Go.RowKit

theorem ret_bool {a b : Bool} (h : a = b) : Ending.returned (.bool a) = .returned (.bool b) := by rw [h]

/-- The address of element k. -/
def adr (ao : Option Addr) (k : Nat) : Addr := match ao with | some a => a.add k | none => ⟨0, 0, none⟩

/-- Byte k. -/
def bg (bs : List UInt8) (k : Nat) : UInt8 := bs.getD k 0

/-- What is known of a slice of bytes: its bytes. -/
structure Vw (w : World) (ao : Option Addr) (n cap : Nat) (bs : List UInt8) : Prop where
  len : bs.length = n
  hc : n ≤ cap
  max : cap ≤ 1048576
  nil : ao = none → cap = 0
  lt : n ≠ 0 → (adr ao 0).block < w.heap.size
  cell : ∀ k, k < n → w.cell? (adr ao k) = some (.int .u8 (bg bs k).toNat)

theorem adr_block (ao : Option Addr) (k : Nat) : (adr ao k).block = (adr ao 0).block := by
  cases ao with
  | none => rfl
  | some a => unfold adr; simp only [Addr.add]; split <;> split <;> rfl

theorem add_add (a : Addr) (i j : Nat) : (a.add i).add j = a.add (i + j) := by
  unfold Addr.add
  by_cases h : i = 0
  · simp [h]
  · by_cases h2 : j = 0
    · simp [h2]
    · simp [h, h2, Nat.add_assoc]

theorem Vw.old {w w' : World} {ao : Option Addr} {n cap : Nat} {bs : List UInt8} (h : Vw w ao n cap bs) (hB : Below w.heap.size w w') : Vw w' ao n cap bs :=
  ⟨h.len, h.hc, h.max, h.nil, fun hn => by have := h.lt hn; have := hB.size; omega, fun k hk => by
    rw [hB.cell (p := adr ao k) (by rw [adr_block]; exact h.lt (by omega))]; exact h.cell k hk⟩

theorem Vw.ix {w : World} {ao : Option Addr} {n cap : Nat} {bs : List UInt8} (h : Vw w ao n cap bs) {k : Nat} (hk : k < n) :
    ∀ wx : World, (Instr.indexAt 22 (.slice ao n cap) (.int .i64 k)).run Try.prog wx = .ok (.pointer (some (adr ao k))) wx := by
  intro wx
  have hc := h.hc
  cases ao with
  | none => have := h.nil rfl; omega
  | some a =>
    have h1 : (0 : Int) ≤ (k : Int) ∧ (k : Int) < (n : Int) := by omega
    have he : Try.prog.elem 22 = 5 := by kernel_rfl
    rw [run_indexAt_slice wx 22 a n cap .i64 k (by rw [he]; exact Try.underlying22), if_pos h1, he]
    simp [Try.sizeOf5, adr]

theorem Vw.ix0 {w : World} {ao : Option Addr} {n cap : Nat} {bs : List UInt8} (h : Vw w ao n cap bs) (hk : 0 < n) :
    ∀ wx : World, (Instr.indexAt 22 (.slice ao n cap) (.int .i64 0)).run Try.prog wx = .ok (.pointer (some (adr ao 0))) wx := h.ix hk

theorem bg_drop (bs : List UInt8) (lo k : Nat) : bg (bs.drop lo) k = bg bs (lo + k) := by
  simp [bg, List.getD_eq_getElem?_getD]
theorem bg_take (bs : List UInt8) (hi k : Nat) (h : k < hi) : bg (bs.take hi) k = bg bs k := by
  simp [bg, List.getD_eq_getElem?_getD, h]
theorem bg_eq (bs : List UInt8) (k : Nat) (h : k < bs.length) : bs[k] = bg bs k := by
  simp [bg, List.getD_eq_getElem?_getD, h]
theorem bg_cons (x : UInt8) (L : List UInt8) : bg (x :: L) 0 = x := rfl
theorem drop_bg (bs : List UInt8) (k : Nat) (h : k < bs.length) : bs.drop k = bg bs k :: bs.drop (k + 1) := by
  rw [← bg_eq bs k h]; exact List.drop_eq_getElem_cons h
theorem bg_mem (bs : List UInt8) (x : UInt8) (h : x ∈ bs) : ∃ k, k < bs.length ∧ bg bs k = x := by
  obtain ⟨k, hk, e⟩ := List.getElem_of_mem h
  exact ⟨k, hk, by rw [← bg_eq bs k hk]; exact e⟩
theorem mem_bg (bs : List UInt8) (k : Nat) (h : k < bs.length) : bg bs k ∈ bs := by
  rw [← bg_eq bs k h]; exact List.getElem_mem _
theorem u8_ne {x c : UInt8} (h : x ≠ c) : x.toNat ≠ c.toNat := fun e => h (UInt8.toNat_inj.1 e)
theorem teq {x c : UInt8} (h : x = c) : ((x.toNat : Int) == (c.toNat : Int)) = true := by rw [h]; simp
theorem tne {x c : UInt8} (h : x ≠ c) : ((x.toNat : Int) == (c.toNat : Int)) = false := by
  have := u8_ne h; rw [beq_eq_false_iff_ne]; omega
theorem neq {x c : UInt8} (h : x = c) : ((x.toNat : Int) != (c.toNat : Int)) = false := by rw [h]; simp
theorem nne {x c : UInt8} (h : x ≠ c) : ((x.toNat : Int) != (c.toNat : Int)) = true := by
  have := u8_ne h; rw [bne_iff_ne]; omega

/-- 'b[lo:hi]'. -/
theorem Vw.cut {w : World} {ao : Option Addr} {n cap : Nat} {bs : List UInt8} (h : Vw w ao n cap bs) {lo hi : Nat} (h1 : lo ≤ hi) (h2 : hi ≤ n) :
    Vw w (if cap = lo then ao else ao.map (·.add (lo * 1))) (hi - lo) (cap - lo) ((bs.drop lo).take (hi - lo)) := by
  have hc := h.hc
  have hl := h.len
  by_cases e : cap = lo
  · rw [if_pos e]
    have e0 : hi - lo = 0 := by omega
    exact ⟨by rw [e0]; simp, by omega, by have := h.max; omega, fun hn => by have := h.nil hn; omega, fun hn => by omega, fun k hk => by omega⟩
  · rw [if_neg e]
    cases ao with
    | none => have := h.nil rfl; omega
    | some a =>
      have hadr : ∀ k, adr ((some a).map (·.add (lo * 1))) k = adr (some a) (lo + k) := fun k => by
        rw [Option.map_some, Nat.mul_one]; exact add_add a lo k
      refine ⟨by simp; omega, by omega, by have := h.max; omega, fun hn => by simp at hn, fun hn => ?_, fun k hk => ?_⟩
      · rw [hadr 0, adr_block]; exact h.lt (by omega)
      · rw [hadr k, h.cell (lo + k) (by omega), bg_take _ _ _ hk, bg_drop]

theorem sl_lh (ao : Option Addr) (n cap lo hi : Nat) (h1 : lo ≤ hi) (h2 : hi ≤ cap) (wx : World) :
    (Instr.slice 22 (.slice ao n cap) (some (.int .i64 lo)) (some (.int .i64 hi)) none).run Try.prog wx = .ok (.slice (if cap = lo then ao else ao.map (·.add (lo * 1))) (hi - lo) (cap - lo)) wx := by
  have he : Try.prog.elem 22 = 5 := by kernel_rfl
  rw [run_slice_lh wx 22 ao n cap (by rw [he]; exact Try.underlying22) .i64 .i64 lo hi (by omega) (by omega) (by omega), he]
  simp [Try.sizeOf5, sliced]
theorem sl_l (ao : Option Addr) (n cap lo : Nat) (h1 : lo ≤ n) (wx : World) :
    (Instr.slice 22 (.slice ao n cap) (some (.int .i64 lo)) none none).run Try.prog wx = .ok (.slice (if cap = lo then ao else ao.map (·.add (lo * 1))) (n - lo) (cap - lo)) wx := by
  have he : Try.prog.elem 22 = 5 := by kernel_rfl
  rw [run_slice_l wx 22 ao n cap (by rw [he]; exact Try.underlying22) .i64 lo (by omega) (by omega), he]
  simp [Try.sizeOf5, sliced]
theorem sl_h (ao : Option Addr) (n cap hi : Nat) (h1 : hi ≤ cap) (wx : World) :
    (Instr.slice 22 (.slice ao n cap) none (some (.int .i64 hi)) none).run Try.prog wx = .ok (.slice (if cap = 0 then ao else ao.map (·.add (0 * 1))) (hi - 0) (cap - 0)) wx := by
  have he : Try.prog.elem 22 = 5 := by kernel_rfl
  rw [run_slice_h wx 22 ao n cap (by rw [he]; exact Try.underlying22) .i64 hi (by omega) (by omega), he]
  simp [Try.sizeOf5, sliced]

/-- The three cuts, the value named. -/
theorem Vw.off {w : World} {ao : Option Addr} {n cap : Nat} {bs : List UInt8} (h : Vw w ao n cap bs) {lo : Nat} (h1 : lo ≤ n) :
    ∃ ao' cap', Vw w ao' (n - lo) cap' (bs.drop lo) ∧ ∀ wx : World, (Instr.slice 22 (.slice ao n cap) (some (.int .i64 lo)) none none).run Try.prog wx = .ok (.slice ao' (n - lo) cap') wx := by
  refine ⟨_, _, ?_, fun wx => sl_l ao n cap lo h1 wx⟩
  have := h.cut (lo := lo) (hi := n) h1 (Nat.le_refl _)
  rw [List.take_of_length_le (by rw [List.length_drop, h.len]; exact Nat.le_refl _)] at this
  exact this
theorem Vw.off1 {w : World} {ao : Option Addr} {n cap : Nat} {bs : List UInt8} (h : Vw w ao n cap bs) (h1 : 1 ≤ n) :
    ∃ ao' cap', Vw w ao' (n - 1) cap' (bs.drop 1) ∧ ∀ wx : World, (Instr.slice 22 (.slice ao n cap) (some (.int .i64 1)) none none).run Try.prog wx = .ok (.slice ao' (n - 1) cap') wx := h.off h1
theorem Vw.off2 {w : World} {ao : Option Addr} {n cap : Nat} {bs : List UInt8} (h : Vw w ao n cap bs) (h1 : 2 ≤ n) :
    ∃ ao' cap', Vw w ao' (n - 2) cap' (bs.drop 2) ∧ ∀ wx : World, (Instr.slice 22 (.slice ao n cap) (some (.int .i64 2)) none none).run Try.prog wx = .ok (.slice ao' (n - 2) cap') wx := h.off h1
theorem Vw.upto {w : World} {ao : Option Addr} {n cap : Nat} {bs : List UInt8} (h : Vw w ao n cap bs) {hi : Nat} (h1 : hi ≤ n) :
    ∃ ao' cap', Vw w ao' hi cap' (bs.take hi) ∧ ∀ wx : World, (Instr.slice 22 (.slice ao n cap) none (some (.int .i64 hi)) none).run Try.prog wx = .ok (.slice ao' hi cap') wx := by
  refine ⟨_, _, ?_, fun wx => sl_h ao n cap hi (by have := h.hc; omega) wx⟩
  have := h.cut (lo := 0) (hi := hi) (Nat.zero_le _) h1
  exact this
theorem Vw.mid {w : World} {ao : Option Addr} {n cap : Nat} {bs : List UInt8} (h : Vw w ao n cap bs) {lo hi : Nat} (h1 : lo ≤ hi) (h2 : hi ≤ n) :
    ∃ ao' cap', Vw w ao' (hi - lo) cap' ((bs.drop lo).take (hi - lo)) ∧ ∀ wx : World, (Instr.slice 22 (.slice ao n cap) (some (.int .i64 lo)) (some (.int .i64 hi)) none).run Try.prog wx = .ok (.slice ao' (hi - lo) cap') wx :=
  ⟨_, _, h.cut h1 h2, fun wx => sl_lh ao n cap lo hi h1 (by have := h.hc; omega) wx⟩

end Go.Proofs.Qxb6605312a
