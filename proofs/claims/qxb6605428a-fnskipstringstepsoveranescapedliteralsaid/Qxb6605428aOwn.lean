import Derived.Test.Qxb6605428aSkip
import Derived.Lib.AppendStr
import Derived.Laws.BytesArg
namespace Go.Proofs.Qxb6605428a
open Go.RowKit

theorem Try.info5 : (Try.prog.info? 5).map (fun i => (i.zero, i.size, i.bytes)) = some (some (.int .u8 0), 1, 1) := by kernel_rfl

/-- Bytes as cells. -/
def bc (l : List UInt8) : List Value := l.map fun b => Value.int .u8 b.toNat
theorem bc_append (a b : List UInt8) : bc (a ++ b) = bc a ++ bc b := by simp [bc]
theorem bc_len (a : List UInt8) : (bc a).length = a.length := by simp [bc]

theorem own_shape {w : World} {base : Nat} {e : TypeId} {size : Nat} {v : Value} {n : Nat} {xs : List Value} (h : w.ownsRow base e size v n xs) : ∃ ao cap, v = .slice ao n cap := by
  rcases h.2 with ⟨rfl, rfl⟩ | ⟨g, cap, cur, rfl, _⟩
  · exact ⟨none, 0, rfl⟩
  · exact ⟨some ⟨g, 0, none⟩, cap, rfl⟩

theorem own_len {w : World} {base : Nat} {e : TypeId} {v : Value} {n : Nat} {l : List UInt8} (h : w.ownsRow base e 1 v n (bc l)) : l.length = n := by
  have := h.1; rw [bc_len] at this; omega

/-- One byte appended to a row of the call's own. -/
theorem wpList_push (wr : World) (x : Int) (b : UInt8) (hxb : x = b.toNat) {ops : Array Oper} {rest : List Oper} {o : Oper} {a : Act} {Q : Exit → Act → World → Prop} (hgd : o.guard = none) (s y : Operand)
    (ho : o.op = .call { callee := .builtin .append, args := #[s, y], argTypes := #[25, 25] }) (base : Nat) (v : Value) (n : Nat) (l : List UInt8) (hs : a.eval s = v) (hown : wr.ownsRow base 5 1 v n (bc l))
    (hy : a.eval y = .slice (some ⟨wr.heap.size, 0, none⟩) 1 1) (hn : n ≤ 1099511627776) (hb : base ≤ wr.heap.size)
    (h : ∀ v' w', w'.ownsRow base 5 1 v' (n + 1) (bc (l ++ [b])) → Below base wr w' → base ≤ w'.heap.size → wpList Try.prog ops Q rest (a.put o.dst v') w') :
    wpList Try.prog ops Q (o :: rest) a (wr.alloc (.cells #[.int .u8 x] 5)) := by
  obtain ⟨i0, hi, hz0, hz1, hz2⟩ := info_parts Try.info5
  subst hxb
  refine wpList_append_own _ hgd s y 25 ho base 5 i0 (.int .u8 0) 1 1 Try.underlying25 hi hz0 hz1 hz2 rfl (by decide) v n (bc l) hs (hown.alloc _) ⟨wr.heap.size, 0, none⟩ 1 1 [.int .u8 b.toNat] hy rfl ?_ ?_ (by unfold maxLen; omega) (by omega) (by simp; omega) ?_
  · intro j u hj
    match j, hj with
    | 0, hj => simp at hj; subst hj; simp [Addr.add]
  · intro u hu; simp at hu; subst hu; rfl
  · intro v' w' h1 h2 _
    refine h v' w' (by rw [bc_append]; exact h1) ?_ (by have := h2.size; simp at this; omega)
    exact ((Below.refl base wr).alloc hb _).grown h2 (by simp; omega) (fun k hk => (hown.lt k hk).1)

theorem esc_take (c : ByteArray) (k : Nat) (h : k < c.size) : Pl.esc (c.data.toList.take (k + 1)) = Pl.esc (c.data.toList.take k) ++ Pl.e1 (by8 c k) := by
  have h' : k < c.data.toList.length := by rw [size_list]; exact h
  rw [List.take_succ_eq_append_getElem h', by8_list]
  simp [Pl.esc]

theorem e1_yes {x : UInt8} (h : x = 34 ∨ x = 92) : Pl.e1 x = [92, x] := by simp [Pl.e1, h]
theorem e1_no {x : UInt8} (h : ¬ (x = 34 ∨ x = 92)) : Pl.e1 x = [x] := by simp [Pl.e1, h]

theorem esc_le (l : List UInt8) : (Pl.esc l).length ≤ 2 * l.length := by
  induction l with
  | nil => simp [Pl.esc]
  | cons x l ih =>
    have e : Pl.esc (x :: l) = Pl.e1 x ++ Pl.esc l := by simp [Pl.esc]
    have : (Pl.e1 x).length ≤ 2 := by unfold Pl.e1; split <;> simp
    rw [e, List.length_append, List.length_cons]; omega

set_option maxHeartbeats 1000000 in
theorem appendQuoted_any (c : ByteArray) (hc : c.size ≤ 1048576) (base : Nat) (v : Value) (n : Nat) (l : List UInt8) (w : World) (hown : w.ownsRow base 5 1 v n (bc l)) (hn : n ≤ 1048576000) (hb : base ≤ w.heap.size) :
    Calls Try.prog 11 #[v, .string c] w fun e w' => ∃ v', e = .returned v' ∧ w'.ownsRow base 5 1 v' (n + (Pl.quoted c.data.toList).length) (bc (l ++ Pl.quoted c.data.toList)) ∧ Below base w w' := by
  go_enter Try.func11, Try.ntmps11
  go_wp2_with (at_builtin; refine wpList_push w 34 34 rfl rfl (.tmp 7) (.tmp 8) rfl base v n l rfl hown rfl (by omega) hb ?_; intro v1 w1 hown1 hbel1 hb1)
  go_loopw [0, 5] (fun v i wr => ∃ k : Nat, k ≤ c.size ∧ i = .int .i64 k ∧ wr.ownsRow base 5 1 v (n + 1 + (Pl.esc (c.data.toList.take k)).length) (bc (l ++ 34 :: Pl.esc (c.data.toList.take k))) ∧ Below base w wr ∧ base ≤ wr.heap.size) (fun _ i _ => c.size - (intOf i).toNat)
  case atStart => exact ⟨0, Nat.zero_le _, rfl, by simpa [Pl.esc] using hown1, hbel1, hb1⟩
  case round =>
    clear hown1 hbel1 hb1
    obtain ⟨k, hk, rfl, hownr, hbelr, hbr⟩ := hrel
    have hle := esc_le (c.data.toList.take k)
    have hlt2 : (c.data.toList.take k).length ≤ k := List.length_take_le _ _
    have hN : n + 1 + (Pl.esc (c.data.toList.take k)).length ≤ 1099511627775 := by omega
    clear hle hlt2
    obtain ⟨N, hNe⟩ : ∃ N, N = n + 1 + (Pl.esc (c.data.toList.take k)).length := ⟨_, rfl⟩
    rw [← hNe] at hownr hN
    have HN : Hid (N = n + 1 + (Pl.esc (c.data.toList.take k)).length) := hNe
    clear hNe
    by_cases hlt : k < c.size
    · have HE : Hid (Pl.esc (c.data.toList.take (k + 1)) = Pl.esc (c.data.toList.take k) ++ Pl.e1 (by8 c k)) := esc_take c k hlt
      have h8 : ((c[k].toNat : Int) = (by8 c k).toNat) := by rw [by8_eq c k hlt]
      have H8 : Hid ((c[k].toNat : Int) = (by8 c k).toNat) := h8
      clear h8
      by_cases hq : by8 c k = 34 ∨ by8 c k = 92
      · have HQ : Hid (by8 c k = 34 ∨ by8 c k = 92) := hq
        have E1 : Hid (Pl.e1 (by8 c k) = [92, by8 c k]) := e1_yes hq
        by_cases hq1 : by8 c k = 34
        · have e34 : ((c[k].toNat : Int) == 34) = true := tst c k hlt 34 hq1 34
          clear hq hq1
          go_wp2_with (first | (at_builtin; refine wpList_push _ 92 92 rfl rfl (.tmp 25) (.tmp 26) rfl base _ _ _ rfl hownr rfl (by omega) hbr ?_; intro v2 w2 hown2 hbel2 hb2) | (at_builtin; refine wpList_push _ _ (by8 c k) H8.out rfl (.tmp 28) (.tmp 30) rfl base _ _ _ rfl hown2 rfl (by omega) hb2 ?_; intro v3 w3 hown3 hbel3 hb3))
          go_roundw
          case rel => exact ⟨k + 1, by omega, by go_num, by rw [HE.out, E1.out, List.length_append]; rw [show n + 1 + ((Pl.esc (c.data.toList.take k)).length + [92, by8 c k].length) = N + 1 + 1 from by rw [HN.out]; simp; omega]; simpa using hown3, (hbelr.trans hbel2).trans hbel3, hb3⟩
          case measure => simp [intOf]; omega
        · have e34 : ((c[k].toNat : Int) == 34) = false := tstn c k hlt 34 hq1 34 rfl
          have hq2 : by8 c k = 92 := by rcases hq with h | h; exact absurd h hq1; exact h
          have e92 : ((c[k].toNat : Int) == 92) = true := tst c k hlt 92 hq2 92
          clear hq hq1 hq2
          go_wp2_with (first | (at_builtin; refine wpList_push _ 92 92 rfl rfl (.tmp 25) (.tmp 26) rfl base _ _ _ rfl hownr rfl (by omega) hbr ?_; intro v2 w2 hown2 hbel2 hb2) | (at_builtin; refine wpList_push _ _ (by8 c k) H8.out rfl (.tmp 28) (.tmp 30) rfl base _ _ _ rfl hown2 rfl (by omega) hb2 ?_; intro v3 w3 hown3 hbel3 hb3))
          go_roundw
          case rel => exact ⟨k + 1, by omega, by go_num, by rw [HE.out, E1.out, List.length_append]; rw [show n + 1 + ((Pl.esc (c.data.toList.take k)).length + [92, by8 c k].length) = N + 1 + 1 from by rw [HN.out]; simp; omega]; simpa using hown3, (hbelr.trans hbel2).trans hbel3, hb3⟩
          case measure => simp [intOf]; omega
      · have n34 : by8 c k ≠ 34 := fun e => hq (.inl e)
        have n92 : by8 c k ≠ 92 := fun e => hq (.inr e)
        have e34 : ((c[k].toNat : Int) == 34) = false := tstn c k hlt 34 n34 34 rfl
        have e92 : ((c[k].toNat : Int) == 92) = false := tstn c k hlt 92 n92 92 rfl
        have E1 : Hid (Pl.e1 (by8 c k) = [by8 c k]) := e1_no hq
        clear hq n34 n92
        go_wp2_with (at_builtin; refine wpList_push _ _ (by8 c k) H8.out rfl (.tmp 28) (.tmp 30) rfl base _ _ _ rfl hownr rfl (by omega) hbr ?_; intro v3 w3 hown3 hbel3 hb3)
        go_roundw
        case rel => exact ⟨k + 1, by omega, by go_num, by rw [HE.out, E1.out, List.length_append]; rw [show n + 1 + ((Pl.esc (c.data.toList.take k)).length + [by8 c k].length) = N + 1 from by rw [HN.out]; simp; omega]; simpa using hown3, hbelr.trans hbel3, hb3⟩
        case measure => simp [intOf]; omega
    · have hend : c.data.toList.take k = c.data.toList := List.take_of_length_le (by rw [size_list]; omega)
      rw [hend] at HN hownr
      go_wp2_with (at_builtin; refine wpList_push _ 34 34 rfl rfl (.tmp 32) (.tmp 33) rfl base _ _ _ rfl hownr rfl (by omega) hbr ?_; intro v3 w3 hown3 hbel3 hb3)
      go_ret
      refine ⟨_, rfl, ?_, hbelr.trans hbel3⟩
      rw [show n + (Pl.quoted c.data.toList).length = N + 1 from by rw [HN.out]; simp [Pl.quoted]; omega]
      simpa [Pl.quoted] using hown3

/-- The same, the value's shape told. -/
theorem appendQuoted_shape (c : ByteArray) (hc : c.size ≤ 1048576) (base : Nat) (v : Value) (n : Nat) (l : List UInt8) (w : World) (hown : w.ownsRow base 5 1 v n (bc l)) (hn : n ≤ 1048576000) (hb : base ≤ w.heap.size) (m : Nat) (hm : Hid (m = n + (Pl.quoted c.data.toList).length)) :
    Calls Try.prog 11 #[v, .string c] w fun e w' => ∃ ao cap, e = .returned (.slice ao m cap) ∧ w'.ownsRow base 5 1 (.slice ao m cap) m (bc (l ++ Pl.quoted c.data.toList)) ∧ Below base w w' ∧ base ≤ w'.heap.size := by
  refine (appendQuoted_any c hc base v n l w hown hn hb).mono ?_
  rintro e w' ⟨v', rfl, h1, h2⟩
  rw [← hm.out] at h1
  obtain ⟨ao, cap, rfl⟩ := own_shape h1
  exact ⟨ao, cap, rfl, h1, h2, by have := h2.size; omega⟩

/-- 'make([]byte, 0, n)'. -/
theorem wpList_mk0 (w : World) {ops : Array Oper} {rest : List Oper} {o : Oper} {a : Act} {Q : Exit → Act → World → Prop} (hg : o.guard = none) (l c : Operand) (hop : o.op = Op.makeSlice 25 l c) (base : Nat) (C : Int) (n : Nat)
    (hl : a.eval l = .int .i64 0) (hc : a.eval c = .int .i64 C) (hC : C = (n : Int)) (hn : n ≤ 1048576000) (hb : base ≤ w.heap.size)
    (hK : ∀ ao cap w', w'.ownsRow base 5 1 (.slice ao 0 cap) 0 (bc []) → Below base w w' → base ≤ w'.heap.size → wpList Try.prog ops Q rest (a.put o.dst (.slice ao 0 cap)) w') :
    wpList Try.prog ops Q (o :: rest) a w := by
  obtain ⟨i0, hi, hz0, hz1, hz2⟩ := info_parts Try.info5
  refine wpList_make_own w hg l c 25 hop base 5 i0 (.int .u8 0) 1 Try.underlying25 hi hz0 hz1 .i64 .i64 C n hl hc hC (by rw [hz2]; omega) (by unfold maxLen; omega) hb ?_
  intro w' h1 h2
  exact hK _ _ w' h1 ((Below.refl base w).grown h2 hb (fun k hk => by cases hk)) (by have := h2.size; omega)

/-- 'append(b, s...)', s a string. -/
theorem wpList_pushs (w : World) {ops : Array Oper} {rest : List Oper} {o : Oper} {a : Act} {Q : Exit → Act → World → Prop} (hgd : o.guard = none) (sl x : Operand)
    (ho : o.op = .call { callee := .builtin .append, args := #[sl, x], argTypes := #[25, 9] }) (base : Nat) (v : Value) (n : Nat) (l : List UInt8) (hs : a.eval sl = v) (hown : w.ownsRow base 5 1 v n (bc l)) (s : ByteArray) (hx : a.eval x = .string s)
    (hn : n + s.size ≤ 1099511627776) (hb : base ≤ w.heap.size) (m : Nat) (hm : m = n + s.size)
    (h : ∀ ao cap w', w'.ownsRow base 5 1 (.slice ao m cap) m (bc (l ++ s.data.toList)) → Below base w w' → base ≤ w'.heap.size → wpList Try.prog ops Q rest (a.put o.dst (.slice ao m cap)) w') : wpList Try.prog ops Q (o :: rest) a w := by
  obtain ⟨i0, hi, hz0, hz1, hz2⟩ := info_parts Try.info5
  subst hm
  refine Lib.wpList_append_own_string w hgd sl x 25 9 ho base 5 i0 Try.underlying25 Try.underlying9 hi hz0 hz1 hz2 v n (bc l) hs hown s hx (by unfold maxLen; omega) (by omega) hb ?_
  intro v' w' h1 h2 _
  obtain ⟨ao, cap, rfl⟩ := own_shape h1
  refine h ao cap w' (by rw [bc_append]; exact h1) ((Below.refl base w).grown h2 hb (fun k hk => (hown.lt k hk).1)) (by have := h2.size; omega)

/-- 'string(b)'. -/
theorem own_string {w : World} {base : Nat} {ao : Option Addr} {n cap : Nat} {l : List UInt8} (h : w.ownsRow base 5 1 (.slice ao n cap) n (bc l)) :
    ∃ raw : ByteArray, Hid (raw.data.toList = l) ∧ raw.size = n ∧ (convert 25 9 (.slice ao n cap)).run Try.prog w = .ok (.string raw) w := by
  have hl := own_len h
  refine ⟨⟨l.toArray⟩, rfl, by simpa [ByteArray.size] using hl, ?_⟩
  rcases h.2 with ⟨hv, hn⟩ | ⟨g, cap', cur, hv, hb, hg, hnc, hcm, hcs, htake⟩
  · simp only [Value.slice.injEq] at hv
    obtain ⟨rfl, _, rfl⟩ := hv
    have hl0 : l = [] := List.eq_nil_of_length_eq_zero (by omega)
    subst hl0
    exact run_convert_bytes_nil w 25 5 Try.underlying25 Try.underlying5 n 0 9 Try.underlying9
  · simp only [Value.slice.injEq] at hv
    obtain ⟨rfl, _, rfl⟩ := hv
    subst hl
    refine run_convert_bytes_back w 25 9 5 ⟨g, 0, none⟩ cap l Try.underlying25 Try.underlying5 Try.underlying9 ?_
    intro j hj
    refine h.cells (g := g) rfl j _ ?_
    simp [bc, List.getElem?_eq_getElem hj]

theorem bytes4_yes (a0 a1 a2 : ByteArray) (h : a0.size + a1.size + a2.size ≤ 1048576) (w : World) :
    Calls Try.prog 10 #[.string a0, .string a1, .string a2] w fun e w' => e = .returned (.bool true) ∧ w' = w := by
  go_enter Try.func10, Try.ntmps10
  go_wp2
  go_ret
  exact ⟨rfl, rfl⟩

theorem bytes4_no (a0 a1 a2 : ByteArray) (w0 : a0.size ≤ maxLen) (w1 : a1.size ≤ maxLen) (w2 : a2.size ≤ maxLen) (h : ¬ a0.size + a1.size + a2.size ≤ 1048576) (w : World) :
    Calls Try.prog 10 #[.string a0, .string a1, .string a2] w fun e w' => e = .returned (.bool false) ∧ w' = w := by
  unfold maxLen at w0 w1 w2
  go_enter Try.func10, Try.ntmps10
  go_wp2
  all_goals go_ret
  all_goals exact ⟨rfl, rfl⟩

end Go.Proofs.Qxb6605428a
