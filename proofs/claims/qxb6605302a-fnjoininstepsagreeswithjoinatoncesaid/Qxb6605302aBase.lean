import Derived.Test.Qxb6605302aRows
import Derived.Test.Qxb6605302aPlain
import Derived.WalkKit
import Derived.WalkSpells
import Derived.WalkLawsBesides
import Derived.Lib.AppendStr
import Derived.Laws.BytesArg
import Derived.Lib.Bytealg
import Derived.Lib.Strings
namespace Go.Proofs.Qxb6605302a
open Go.RowKit

/-- The byte at m, 0 behind the end. -/
def by8 (s : ByteArray) (m : Nat) : UInt8 := s.data.toList.getD m 0
theorem by8_eq (s : ByteArray) (m : Nat) (h : m < s.size) : s[m] = by8 s m := by
  have h' : m < s.data.toList.length := by simpa using h
  unfold by8
  rw [List.getD_eq_getElem?_getD, List.getElem?_eq_getElem h']
  rfl
theorem by8_list (s : ByteArray) (m : Nat) (h : m < s.data.toList.length) : s.data.toList[m] = by8 s m := by
  unfold by8
  rw [List.getD_eq_getElem?_getD, List.getElem?_eq_getElem h]
  rfl
theorem size_list (s : ByteArray) : s.data.toList.length = s.size := by simp
theorem extract_list (s : ByteArray) (j : Nat) : (s.extract j s.size).data.toList = s.data.toList.drop j := by
  simp
  rw [List.take_of_length_le (by simp)]

theorem u8_ext (x : UInt8) (n : Nat) (hn : n < 256) (h : (x.toNat : Int) = n) : x = UInt8.ofNat n := by
  apply UInt8.toNat_inj.1
  have : x.toNat = n := by omega
  rw [this]; simp; omega

theorem ret_i64 {a b : Int} (h : a = b) : Ending.returned (.int .i64 a) = .returned (.int .i64 b) := by rw [h]

theorem ret_bool {a b : Bool} (h : a = b) : Ending.returned (.bool a) = .returned (.bool b) := by rw [h]

theorem tst (s : ByteArray) (i : Nat) (h : i < s.size) (c : UInt8) (hx : by8 s i = c) (n : Int) : ((s[i].toNat : Int) == n) = ((c.toNat : Int) == n) := by
  rw [by8_eq s i h, hx]
theorem tstn (s : ByteArray) (i : Nat) (h : i < s.size) (c : UInt8) (hx : by8 s i ≠ c) (n : Int) (hn : (c.toNat : Int) = n) : ((s[i].toNat : Int) == n) = false := by
  rw [by8_eq s i h, beq_eq_false_iff_ne, ← hn]
  intro e
  exact hx (UInt8.toNat_inj.1 (by omega))

/-- What a search for a byte finds. -/
theorem indexByte_form : ∀ (l : List UInt8) (c : UInt8), (Lib.indexByte l c = -1 ∧ ∀ x ∈ l, x ≠ c) ∨ ∃ (k : Nat) (h : k < l.length), Lib.indexByte l c = k ∧ l[k] = c ∧ ∀ j (hj : j < l.length), j < k → l[j] ≠ c
  | [], c => by left; simp [Lib.indexByte]
  | b :: l, c => by
    by_cases hb : b = c
    · right; exact ⟨0, by simp, by simp [Lib.indexByte, hb], by simp [hb], fun j _ hj => by omega⟩
    · have hbc : (b == c) = false := by simpa using hb
      rcases indexByte_form l c with ⟨h, ha⟩ | ⟨k, hk, he, hkc, hno⟩
      · left; exact ⟨by simp [Lib.indexByte, hbc, h], by intro x hx; rcases List.mem_cons.1 hx with rfl | hx; exact hb; exact ha x hx⟩
      · right
        refine ⟨k + 1, by simp; omega, ?_, by simpa using hkc, ?_⟩
        · have : ((k : Int) == -1) = false := by rw [beq_eq_false_iff_ne]; omega
          simp [Lib.indexByte, hbc, he, this]
        · intro j hj hjk
          cases j with
          | zero => simpa using hb
          | succ j => simpa using hno j (by simpa using hj) (by omega)


theorem Try.info5 : (Try.prog.info? 5).map (fun i => (i.zero, i.size, i.bytes)) = some (some (.int .u8 0), 1, 1) := by kernel_rfl
theorem Try.info9 : (Try.prog.info? 9).map (fun i => (i.zero, i.size, i.bytes)) = some (some (.string ByteArray.empty), 1, 16) := by kernel_rfl

/-- Bytes as cells. -/
def bc (l : List UInt8) : List Value := l.map fun b => Value.int .u8 b.toNat
theorem bc_append (a b : List UInt8) : bc (a ++ b) = bc a ++ bc b := by simp [bc]
theorem bc_len (a : List UInt8) : (bc a).length = a.length := by simp [bc]

theorem own_shape {w : World} {base : Nat} {e : TypeId} {size : Nat} {v : Value} {n : Nat} {xs : List Value} (h : w.ownsRow base e size v n xs) : ∃ ao cap, v = .slice ao n cap := by
  rcases h.2 with ⟨rfl, rfl⟩ | ⟨g, cap, cur, rfl, _⟩
  · exact ⟨none, 0, rfl⟩
  · exact ⟨some ⟨g, 0, none⟩, cap, rfl⟩

theorem own_len {w : World} {base : Nat} {e : TypeId} {v : Value} {n : Nat} {l : List UInt8} (h : w.ownsRow base e 1 v n (bc l)) : l.length = n := by
  have := h.1; rw [bc_len] at this; omega

theorem heap_lt {w : World} {k : Nat} {o : Obj} (h : w.heap[k]? = some o) : k < w.heap.size := (Array.getElem?_eq_some_iff.1 h).1

/-- One byte appended to a row of the call's own. -/
theorem wpList_push (wr : World) (x : Int) (b : UInt8) (hxb : x = b.toNat) {ops : Array Oper} {rest : List Oper} {o : Oper} {a : Act} {Q : Exit → Act → World → Prop} (hgd : o.guard = none) (s y : Operand)
    (ho : o.op = .call { callee := .builtin .append, args := #[s, y], argTypes := #[24, 24] }) (base : Nat) (v : Value) (n : Nat) (l : List UInt8) (hs : a.eval s = v) (hown : wr.ownsRow base 5 1 v n (bc l))
    (hy : a.eval y = .slice (some ⟨wr.heap.size, 0, none⟩) 1 1) (hn : n ≤ 1099511627776) (hb : base ≤ wr.heap.size)
    (h : ∀ ao cap w', w'.ownsRow base 5 1 (.slice ao (n + 1) cap) (n + 1) (bc (l ++ [b])) → Below base wr w' → base ≤ w'.heap.size → wpList Try.prog ops Q rest (a.put o.dst (.slice ao (n + 1) cap)) w') :
    wpList Try.prog ops Q (o :: rest) a (wr.alloc (.cells #[.int .u8 x] 5)) := by
  obtain ⟨i0, hi, hz0, hz1, hz2⟩ := info_parts Try.info5
  subst hxb
  refine wpList_append_own _ hgd s y 24 ho base 5 i0 (.int .u8 0) 1 1 Try.underlying24 hi hz0 hz1 hz2 rfl (by decide) v n (bc l) hs (hown.alloc _) ⟨wr.heap.size, 0, none⟩ 1 1 [.int .u8 b.toNat] hy rfl ?_ ?_ (by unfold maxLen; omega) (by omega) (by simp; omega) ?_
  · intro j u hj
    match j, hj with
    | 0, hj => simp at hj; subst hj; simp [Addr.add]
  · intro u hu; simp at hu; subst hu; rfl
  · intro v' w' h1 h2 _
    obtain ⟨ao, cap, rfl⟩ := own_shape h1
    refine h ao cap w' (by rw [bc_append]; exact h1) ?_ (by have := h2.size; simp at this; omega)
    exact ((Below.refl base wr).alloc hb _).grown h2 (by simp; omega) (fun k hk => (hown.lt k hk).1)

/-- 'make([]byte, 0, n)'. -/
theorem wpList_mk0 (w : World) {ops : Array Oper} {rest : List Oper} {o : Oper} {a : Act} {Q : Exit → Act → World → Prop} (hg : o.guard = none) (l c : Operand) (hop : o.op = Op.makeSlice 24 l c) (base : Nat) (C : Int) (n : Nat)
    (hl : a.eval l = .int .i64 0) (hc : a.eval c = .int .i64 C) (hC : C = (n : Int)) (hn : n ≤ 1048576000) (hb : base ≤ w.heap.size)
    (hK : ∀ ao cap w', w'.ownsRow base 5 1 (.slice ao 0 cap) 0 (bc []) → Below base w w' → base ≤ w'.heap.size → wpList Try.prog ops Q rest (a.put o.dst (.slice ao 0 cap)) w') :
    wpList Try.prog ops Q (o :: rest) a w := by
  obtain ⟨i0, hi, hz0, hz1, hz2⟩ := info_parts Try.info5
  refine wpList_make_own w hg l c 24 hop base 5 i0 (.int .u8 0) 1 Try.underlying24 hi hz0 hz1 .i64 .i64 C n hl hc hC (by rw [hz2]; omega) (by unfold maxLen; omega) hb ?_
  intro w' h1 h2
  exact hK _ _ w' h1 ((Below.refl base w).grown h2 hb (fun k hk => by cases hk)) (by have := h2.size; omega)

/-- 'string(b)'. -/
theorem own_string {w : World} {base : Nat} {ao : Option Addr} {n cap : Nat} {l : List UInt8} (h : w.ownsRow base 5 1 (.slice ao n cap) n (bc l)) :
    ∃ raw : ByteArray, Hid (raw.data.toList = l) ∧ raw.size = n ∧ (convert 24 9 (.slice ao n cap)).run Try.prog w = .ok (.string raw) w := by
  have hl := own_len h
  refine ⟨⟨l.toArray⟩, rfl, by simpa [ByteArray.size] using hl, ?_⟩
  rcases h.2 with ⟨hv, hn⟩ | ⟨g, cap', cur, hv, hb, hg, hnc, hcm, hcs, htake⟩
  · simp only [Value.slice.injEq] at hv
    obtain ⟨rfl, _, rfl⟩ := hv
    have hl0 : l = [] := List.eq_nil_of_length_eq_zero (by omega)
    subst hl0
    exact run_convert_bytes_nil w 24 5 Try.underlying24 Try.underlying5 n 0 9 Try.underlying9
  · simp only [Value.slice.injEq] at hv
    obtain ⟨rfl, _, rfl⟩ := hv
    subst hl
    refine run_convert_bytes_back w 24 9 5 ⟨g, 0, none⟩ cap l Try.underlying24 Try.underlying5 Try.underlying9 ?_
    intro j hj
    refine h.cells (g := g) rfl j _ ?_
    simp [bc, List.getElem?_eq_getElem hj]


end Go.Proofs.Qxb6605302a
