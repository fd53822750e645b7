import Derived.Test.Qxb6605428aItems
import Derived.Lib.AppendStr
import Derived.Laws.BytesArg
import Derived.Laws.CopyOwn
namespace Go.Proofs.Qxb6605428a
open Go.RowKit

theorem Try.info5 : (Try.prog.info? 5).map (fun i => (i.zero, i.size, i.bytes)) = some (some (.int .u8 0), 1, 1) := by kernel_rfl

/-- Bytes as cells. -/
def bc (l : List UInt8) : List Value := l.map fun b => Value.int .u8 b.toNat
theorem bc_append (a b : List UInt8) : bc (a ++ b) = bc a ++ bc b := by simp [bc]
theorem bc_len (a : List UInt8) : (bc a).length = a.length := by simp [bc]

theorem own_shape {w : World} {base : Nat} {e : TypeId} {size : Nat} {v : Value} {n : Nat} {xs : List Value} (h : w.ownsRow base e size v n xs) : ∃ ao cap, v = .slice ao n cap := by
  rcases h.2 with ⟨rfl, rfl⟩ | ⟨g, cap, cur, rfl, _⟩
  · exact ⟨none, 0, rfl⟩
  · exact ⟨some ⟨g, 0, none⟩, cap, rfl⟩

theorem own_len {w : World} {base : Nat} {e : TypeId} {v : Value} {n : Nat} {l : List UInt8} (h : w.ownsRow base e 1 v n (bc l)) : l.length = n := by
  have := h.1; rw [bc_len] at this; omega

/-- Blocks of cells whose element type is not byte's stay as they are. -/
def Keep5 (w w' : World) : Prop := ∀ (k : Nat) (cs : Array Value) (t : TypeId) (m : Nat × Nat), t ≠ 5 → w.heap[k]? = some (Obj.cells cs t m) → w'.heap[k]? = some (Obj.cells cs t m)

/-- What a step of the builder leaves. -/
structure Stp (base : Nat) (w w' : World) : Prop where
  bel : Below base w w'
  sz : base ≤ w'.heap.size
  keep : Keep5 w w'

theorem Stp.trans {base : Nat} {a b c : World} (h : Stp base a b) (k : Stp base b c) : Stp base a c :=
  ⟨h.bel.trans k.bel, k.sz, fun i cs t m ht e => k.keep i cs t m ht (h.keep i cs t m ht e)⟩

theorem Stp.refl {base : Nat} {w : World} (h : base ≤ w.heap.size) : Stp base w w := ⟨Below.refl _ _, h, fun _ _ _ _ _ e => e⟩

theorem heap_lt {w : World} {k : Nat} {o : Obj} (h : w.heap[k]? = some o) : k < w.heap.size := (Array.getElem?_eq_some_iff.1 h).1

theorem stp_alloc {base : Nat} {w : World} (h : base ≤ w.heap.size) (o : Obj) : Stp base w (w.alloc o) :=
  ⟨(Below.refl base w).alloc h o, by simp; omega, fun k cs t m _ e => by rw [Below.heap_alloc _ _ _ (heap_lt e)]; exact e⟩

theorem stp_grown {base : Nat} {w w' : World} {v : Value} {n : Nat} {l : List UInt8} (hown : w.ownsRow base 5 1 v n (bc l)) (hg : w.grownBy w' v.ownBlock) (h : base ≤ w.heap.size) : Stp base w w' := by
  refine ⟨(Below.refl base w).grown hg h (fun k hk => (hown.lt k hk).1), by have := hg.size; omega, fun k cs t m ht e => ?_⟩
  rw [hg.block k (heap_lt e) ?_]
  · exact e
  · intro hk
    rcases hown.2 with ⟨rfl, _⟩ | ⟨g, cap, cur, rfl, _, hgg, _⟩
    · cases hk
    · simp only [Value.ownBlock, Option.some.injEq] at hk
      subst hk
      rw [hgg] at e
      simp only [Option.some.injEq, Obj.cells.injEq] at e
      exact ht e.2.1.symm

/-- One byte appended to a row of the call's own. -/
theorem wpList_push (wr : World) (x : Int) (b : UInt8) (hxb : x = b.toNat) {ops : Array Oper} {rest : List Oper} {o : Oper} {a : Act} {Q : Exit → Act → World → Prop} (hgd : o.guard = none) (s y : Operand)
    (ho : o.op = .call { callee := .builtin .append, args := #[s, y], argTypes := #[25, 25] }) (base : Nat) (v : Value) (n : Nat) (l : List UInt8) (hs : a.eval s = v) (hown : wr.ownsRow base 5 1 v n (bc l))
    (hy : a.eval y = .slice (some ⟨wr.heap.size, 0, none⟩) 1 1) (hn : n ≤ 1099511627776) (hb : base ≤ wr.heap.size)
    (h : ∀ ao cap w', w'.ownsRow base 5 1 (.slice ao (n + 1) cap) (n + 1) (bc (l ++ [b])) → Stp base wr w' → wpList Try.prog ops Q rest (a.put o.dst (.slice ao (n + 1) cap)) w') :
    wpList Try.prog ops Q (o :: rest) a (wr.alloc (.cells #[.int .u8 x] 5)) := by
  obtain ⟨i0, hi, hz0, hz1, hz2⟩ := info_parts Try.info5
  subst hxb
  refine wpList_append_own _ hgd s y 25 ho base 5 i0 (.int .u8 0) 1 1 Try.underlying25 hi hz0 hz1 hz2 rfl (by decide) v n (bc l) hs (hown.alloc _) ⟨wr.heap.size, 0, none⟩ 1 1 [.int .u8 b.toNat] hy rfl ?_ ?_ (by unfold maxLen; omega) (by omega) (by simp; omega) ?_
  · intro j u hj
    match j, hj with
    | 0, hj => simp at hj; subst hj; simp [Addr.add]
  · intro u hu; simp at hu; subst hu; rfl
  · intro v' w' h1 h2 _
    obtain ⟨ao, cap, rfl⟩ := own_shape h1
    refine h ao cap w' (by rw [bc_append]; exact h1) ?_
    exact (stp_alloc hb _).trans (stp_grown (hown.alloc _) h2 (by simp; omega))

theorem esc_take (c : ByteArray) (k : Nat) (h : k < c.size) : Pl.esc (c.data.toList.take (k + 1)) = Pl.esc (c.data.toList.take k) ++ Pl.e1 (by8 c k) := by
  have h' : k < c.data.toList.length := by rw [size_list]; exact h
  rw [List.take_succ_eq_append_getElem h', by8_list]
  simp [Pl.esc]

theorem e1_yes {x : UInt8} (h : x = 34 ∨ x = 92) : Pl.e1 x = [92, x] := by simp [Pl.e1, h]
theorem e1_no {x : UInt8} (h : ¬ (x = 34 ∨ x = 92)) : Pl.e1 x = [x] := by simp [Pl.e1, h]

theorem esc_le (l : List UInt8) : (Pl.esc l).length ≤ 2 * l.length := by
  induction l with
  | nil => simp [Pl.esc]
  | cons x l ih =>
    have e : Pl.esc (x :: l) = Pl.e1 x ++ Pl.esc l := by simp [Pl.esc]
    have : (Pl.e1 x).length ≤ 2 := by unfold Pl.e1; split <;> simp
    rw [e, List.length_append, List.length_cons]; omega

set_option maxHeartbeats 1000000 in
theorem appendQuoted_any (c : ByteArray) (hc : c.size ≤ 1048576) (base : Nat) (v : Value) (n : Nat) (l : List UInt8) (w : World) (hown : w.ownsRow base 5 1 v n (bc l)) (hn : n ≤ 1048576000) (hb : base ≤ w.heap.size) (m : Nat) (hm : Hid (m = n + (Pl.quoted c.data.toList).length)) :
    Calls Try.prog 11 #[v, .string c] w fun e w' => ∃ ao cap, e = .returned (.slice ao m cap) ∧ w'.ownsRow base 5 1 (.slice ao m cap) m (bc (l ++ Pl.quoted c.data.toList)) ∧ Stp base w w' := by
  go_enter Try.func11, Try.ntmps11
  go_wp2_with (at_builtin; refine wpList_push w 34 34 rfl rfl (.tmp 7) (.tmp 8) rfl base v n l rfl hown rfl (by omega) hb ?_; intro ao1 cap1 w1 hown1 hbel1)
  go_loopw [0, 5] (fun v i wr => ∃ (k N : Nat) (ao : Option Addr) (cap : Nat), k ≤ c.size ∧ i = .int .i64 k ∧ v = .slice ao N cap ∧ N ≤ 1099511627775 ∧ Hid (N = n + 1 + (Pl.esc (c.data.toList.take k)).length) ∧ wr.ownsRow base 5 1 (.slice ao N cap) N (bc (l ++ 34 :: Pl.esc (c.data.toList.take k))) ∧ Stp base w wr) (fun _ i _ => c.size - (intOf i).toNat)
  case atStart => exact ⟨0, n + 1, ao1, cap1, Nat.zero_le _, rfl, rfl, by omega, by simp [Pl.esc, Hid], by simpa [Pl.esc] using hown1, hbel1⟩
  case round =>
    clear hown1 hbel1
    obtain ⟨k, N, ao, cap, hk, rfl, rfl, hN, HN, hownr, hbelr⟩ := hrel
    have hbr := hbelr.sz
    have hNS : N + 2 ≤ 1099511627775 := by
      have hle := esc_le (c.data.toList.take k)
      have hlt2 : (c.data.toList.take k).length ≤ k := List.length_take_le _ _
      have := HN.out
      omega
    by_cases hlt : k < c.size
    · have HE : Hid (Pl.esc (c.data.toList.take (k + 1)) = Pl.esc (c.data.toList.take k) ++ Pl.e1 (by8 c k)) := esc_take c k hlt
      have H8 : Hid ((c[k].toNat : Int) = (by8 c k).toNat) := by show (c[k].toNat : Int) = _; rw [by8_eq c k hlt]
      by_cases hq : by8 c k = 34 ∨ by8 c k = 92
      · have E1 : Hid (Pl.e1 (by8 c k) = [92, by8 c k]) := e1_yes hq
        have E2 : Hid (N + 1 + 1 = n + 1 + (Pl.esc (c.data.toList.take (k + 1))).length) := by
          show N + 1 + 1 = _
          rw [HE.out, E1.out, HN.out, List.length_append]; simp; omega
        by_cases hq1 : by8 c k = 34
        · have e34 : ((c[k].toNat : Int) == 34) = true := tst c k hlt 34 hq1 34
          clear hq hq1
          go_wp2_with (first | (at_builtin; refine wpList_push _ 92 92 rfl rfl (.tmp 25) (.tmp 26) rfl base _ _ _ rfl hownr rfl (by omega) hbr ?_; intro ao2 cap2 w2 hown2 hbel2; have hb2 := hbel2.sz) | (at_builtin; refine wpList_push _ _ (by8 c k) H8.out rfl (.tmp 28) (.tmp 30) rfl base _ _ _ rfl hown2 rfl (by omega) hb2 ?_; intro ao3 cap3 w3 hown3 hbel3))
          go_roundw
          case rel => exact ⟨k + 1, N + 1 + 1, ao3, cap3, by omega, by go_num, rfl, by omega, E2, by rw [HE.out, E1.out]; simpa using hown3, (hbelr.trans hbel2).trans hbel3⟩
          case measure => simp [intOf]; omega
        · have e34 : ((c[k].toNat : Int) == 34) = false := tstn c k hlt 34 hq1 34 rfl
          have hq2 : by8 c k = 92 := by rcases hq with h | h; exact absurd h hq1; exact h
          have e92 : ((c[k].toNat : Int) == 92) = true := tst c k hlt 92 hq2 92
          clear hq hq1 hq2
          go_wp2_with (first | (at_builtin; refine wpList_push _ 92 92 rfl rfl (.tmp 25) (.tmp 26) rfl base _ _ _ rfl hownr rfl (by omega) hbr ?_; intro ao2 cap2 w2 hown2 hbel2; have hb2 := hbel2.sz) | (at_builtin; refine wpList_push _ _ (by8 c k) H8.out rfl (.tmp 28) (.tmp 30) rfl base _ _ _ rfl hown2 rfl (by omega) hb2 ?_; intro ao3 cap3 w3 hown3 hbel3))
          go_roundw
          case rel => exact ⟨k + 1, N + 1 + 1, ao3, cap3, by omega, by go_num, rfl, by omega, E2, by rw [HE.out, E1.out]; simpa using hown3, (hbelr.trans hbel2).trans hbel3⟩
          case measure => simp [intOf]; omega
      · have n34 : by8 c k ≠ 34 := fun e => hq (.inl e)
        have n92 : by8 c k ≠ 92 := fun e => hq (.inr e)
        have e34 : ((c[k].toNat : Int) == 34) = false := tstn c k hlt 34 n34 34 rfl
        have e92 : ((c[k].toNat : Int) == 92) = false := tstn c k hlt 92 n92 92 rfl
        have E1 : Hid (Pl.e1 (by8 c k) = [by8 c k]) := e1_no hq
        have E2 : Hid (N + 1 = n + 1 + (Pl.esc (c.data.toList.take (k + 1))).length) := by
          show N + 1 = _
          rw [HE.out, E1.out, HN.out, List.length_append]; simp; omega
        clear hq n34 n92
        go_wp2_with (at_builtin; refine wpList_push _ _ (by8 c k) H8.out rfl (.tmp 28) (.tmp 30) rfl base _ _ _ rfl hownr rfl (by omega) hbr ?_; intro ao3 cap3 w3 hown3 hbel3)
        go_roundw
        case rel => exact ⟨k + 1, N + 1, ao3, cap3, by omega, by go_num, rfl, by omega, E2, by rw [HE.out, E1.out]; simpa using hown3, hbelr.trans hbel3⟩
        case measure => simp [intOf]; omega
    · have hend : c.data.toList.take k = c.data.toList := List.take_of_length_le (by rw [size_list]; omega)
      rw [hend] at HN hownr
      have E2 : Hid (N + 1 = m) := by
        show N + 1 = m
        rw [HN.out, hm.out]; simp [Pl.quoted]; omega
      clear hend
      go_wp2_with (at_builtin; refine wpList_push _ 34 34 rfl rfl (.tmp 32) (.tmp 33) rfl base _ _ _ rfl hownr rfl (by omega) hbr ?_; intro ao3 cap3 w3 hown3 hbel3)
      go_ret
      refine ⟨ao3, cap3, by rw [← E2.out]; rfl, ?_, hbelr.trans hbel3⟩
      rw [← E2.out]
      simpa [Pl.quoted] using hown3

/-- Nothing old has turned. -/
theorem stp_old {base : Nat} {w w' : World} (h : base ≤ w.heap.size) (hB : Below w.heap.size w w') : Stp base w w' :=
  ⟨hB.mono h, by have := hB.size; omega, fun k cs t m _ e => by rw [hB.block k (heap_lt e)]; exact e⟩

theorem own_old {base : Nat} {e : TypeId} {size : Nat} {v : Value} {n : Nat} {xs : List Value} {w w' : World} (h : w.ownsRow base e size v n xs) (hB : Below w.heap.size w w') : w'.ownsRow base e size v n xs := by
  refine ⟨h.1, ?_⟩
  rcases h.2 with hn | ⟨g, cap, cur, rfl, hb, hgg, rest⟩
  · exact .inl hn
  · exact .inr ⟨g, cap, cur, rfl, hb, by rw [hB.block g (heap_lt hgg)]; exact hgg, rest⟩

/-- 'make([]byte, 0, n)'. -/
theorem wpList_mk0 (w : World) {ops : Array Oper} {rest : List Oper} {o : Oper} {a : Act} {Q : Exit → Act → World → Prop} (hg : o.guard = none) (l c : Operand) (hop : o.op = Op.makeSlice 25 l c) (base : Nat) (C : Int) (n : Nat)
    (hl : a.eval l = .int .i64 0) (hc : a.eval c = .int .i64 C) (hC : C = (n : Int)) (hn : n ≤ 1048576000) (hb : base ≤ w.heap.size)
    (hK : ∀ ao cap w', w'.ownsRow base 5 1 (.slice ao 0 cap) 0 (bc []) → Stp base w w' → Below w.heap.size w w' → wpList Try.prog ops Q rest (a.put o.dst (.slice ao 0 cap)) w') :
    wpList Try.prog ops Q (o :: rest) a w := by
  obtain ⟨i0, hi, hz0, hz1, hz2⟩ := info_parts Try.info5
  refine wpList_make_own w hg l c 25 hop base 5 i0 (.int .u8 0) 1 Try.underlying25 hi hz0 hz1 .i64 .i64 C n hl hc hC (by rw [hz2]; omega) (by unfold maxLen; omega) hb ?_
  intro w' h1 h2
  have hB : Below w.heap.size w w' := (Below.refl _ w).grown h2 (Nat.le_refl _) (fun k hk => by cases hk)
  exact hK _ _ w' h1 (stp_old hb hB) hB

/-- 'append(b, s...)', s a string. -/
theorem wpList_pushs (w : World) {ops : Array Oper} {rest : List Oper} {o : Oper} {a : Act} {Q : Exit → Act → World → Prop} (hgd : o.guard = none) (sl x : Operand)
    (ho : o.op = .call { callee := .builtin .append, args := #[sl, x], argTypes := #[25, 9] }) (base : Nat) (v : Value) (n : Nat) (l : List UInt8) (hs : a.eval sl = v) (hown : w.ownsRow base 5 1 v n (bc l)) (s : ByteArray) (hx : a.eval x = .string s)
    (hn : n + s.size ≤ 1099511627776) (hb : base ≤ w.heap.size) (m : Nat) (hm : m = n + s.size)
    (h : ∀ ao cap w', w'.ownsRow base 5 1 (.slice ao m cap) m (bc (l ++ s.data.toList)) → Stp base w w' → wpList Try.prog ops Q rest (a.put o.dst (.slice ao m cap)) w') : wpList Try.prog ops Q (o :: rest) a w := by
  obtain ⟨i0, hi, hz0, hz1, hz2⟩ := info_parts Try.info5
  subst hm
  refine Lib.wpList_append_own_string w hgd sl x 25 9 ho base 5 i0 Try.underlying25 Try.underlying9 hi hz0 hz1 hz2 v n (bc l) hs hown s hx (by unfold maxLen; omega) (by omega) hb ?_
  intro v' w' h1 h2 _
  obtain ⟨ao, cap, rfl⟩ := own_shape h1
  refine h ao cap w' (by rw [bc_append]; exact h1) (stp_grown hown h2 hb)

/-- 'string(b)'. -/
theorem own_string {w : World} {base : Nat} {ao : Option Addr} {n cap : Nat} {l : List UInt8} (h : w.ownsRow base 5 1 (.slice ao n cap) n (bc l)) :
    ∃ raw : ByteArray, Hid (raw.data.toList = l) ∧ raw.size = n ∧ (convert 25 9 (.slice ao n cap)).run Try.prog w = .ok (.string raw) w := by
  have hl := own_len h
  refine ⟨⟨l.toArray⟩, rfl, by simpa [ByteArray.size] using hl, ?_⟩
  rcases h.2 with ⟨hv, hn⟩ | ⟨g, cap', cur, hv, hb, hg, hnc, hcm, hcs, htake⟩
  · simp only [Value.slice.injEq] at hv
    obtain ⟨rfl, _, rfl⟩ := hv
    have hl0 : l = [] := List.eq_nil_of_length_eq_zero (by omega)
    subst hl0
    exact run_convert_bytes_nil w 25 5 Try.underlying25 Try.underlying5 n 0 9 Try.underlying9
  · simp only [Value.slice.injEq] at hv
    obtain ⟨rfl, _, rfl⟩ := hv
    subst hl
    refine run_convert_bytes_back w 25 9 5 ⟨g, 0, none⟩ cap l Try.underlying25 Try.underlying5 Try.underlying9 ?_
    intro j hj
    refine h.cells (g := g) rfl j _ ?_
    simp [bc, List.getElem?_eq_getElem hj]


theorem Try.info9 : (Try.prog.info? 9).map (fun i => (i.zero, i.size, i.bytes)) = some (some (.string ByteArray.empty), 1, 16) := by kernel_rfl
theorem Try.info3 : (Try.prog.info? 3).map (fun i => (i.zero, i.size, i.bytes)) = some (some (.int .i64 0), 1, 8) := by kernel_rfl

/-- 'make([]string, n)'. -/
theorem wpList_mkStr (w : World) {ops : Array Oper} {rest : List Oper} {o : Oper} {a : Act} {Q : Exit → Act → World → Prop} (hg : o.guard = none) (l c : Operand) (hop : o.op = Op.makeSlice 27 l c) (C : Int) (n : Nat)
    (hl : a.eval l = .int .i64 C) (hc : a.eval c = .int .i64 C) (hC : C = (n : Int)) (hn : n ≤ 1048576)
    (hK : ∀ g cur w', Hid (g = w.heap.size) → Hid (cur.size = n) → Hid (w'.heap[g]? = some (.cells cur 9 (0, 0))) → Below w.heap.size w w' → wpList Try.prog ops Q rest (a.put o.dst (.slice (some ⟨g, 0, none⟩) n n)) w') :
    wpList Try.prog ops Q (o :: rest) a w := by
  obtain ⟨i0, hi, hz0, hz1, hz2⟩ := info_parts Try.info9
  refine wpList_make_full w hg l c 27 hop w.heap.size 9 i0 (.string ByteArray.empty) 1 Try.underlying27 hi hz0 hz1 .i64 .i64 C C n hl hc hC hC (by rw [hz2]; omega) (by unfold maxLen; omega) (Nat.le_refl _) ?_
  intro w' h1 h2
  have hB : Below w.heap.size w w' := (Below.refl _ w).grown h2 (Nat.le_refl _) (fun k hk => by cases hk)
  rcases h1.2 with ⟨hv, _⟩ | ⟨g, cap, cur, hv, _, hgg, _, _, hcs, _⟩
  · simp at hv
  · simp only [Value.slice.injEq, Option.some.injEq, Addr.mk.injEq, and_true, true_and] at hv
    obtain ⟨rfl, rfl⟩ := hv
    exact hK _ cur w' rfl (by show cur.size = n; omega) hgg hB

/-- 'make([]int, n)'. -/
theorem wpList_mkInt (w : World) {ops : Array Oper} {rest : List Oper} {o : Oper} {a : Act} {Q : Exit → Act → World → Prop} (hg : o.guard = none) (l c : Operand) (hop : o.op = Op.makeSlice 29 l c) (C : Int) (n : Nat)
    (hl : a.eval l = .int .i64 C) (hc : a.eval c = .int .i64 C) (hC : C = (n : Int)) (hn : n ≤ 1048576)
    (hK : ∀ g cur w', Hid (g = w.heap.size) → Hid (cur.size = n) → Hid (w'.heap[g]? = some (.cells cur 3 (0, 0))) → Below w.heap.size w w' → wpList Try.prog ops Q rest (a.put o.dst (.slice (some ⟨g, 0, none⟩) n n)) w') :
    wpList Try.prog ops Q (o :: rest) a w := by
  obtain ⟨i0, hi, hz0, hz1, hz2⟩ := info_parts Try.info3
  refine wpList_make_full w hg l c 29 hop w.heap.size 3 i0 (.int .i64 0) 1 Try.underlying29 hi hz0 hz1 .i64 .i64 C C n hl hc hC hC (by rw [hz2]; omega) (by unfold maxLen; omega) (Nat.le_refl _) ?_
  intro w' h1 h2
  have hB : Below w.heap.size w w' := (Below.refl _ w).grown h2 (Nat.le_refl _) (fun k hk => by cases hk)
  rcases h1.2 with ⟨hv, _⟩ | ⟨g, cap, cur, hv, _, hgg, _, _, hcs, _⟩
  · simp at hv
  · simp only [Value.slice.injEq, Option.some.injEq, Addr.mk.injEq, and_true, true_and] at hv
    obtain ⟨rfl, rfl⟩ := hv
    exact hK _ cur w' rfl (by show cur.size = n; omega) hgg hB

/-- 'copy(c, items)' into the whole of a row of strings that the call has just made. -/
theorem wpList_cpStr (w : World) {ops : Array Oper} {rest : List Oper} {o : Oper} {a : Act} {Q : Exit → Act → World → Prop} (hg : o.guard = none) (d s : Operand)
    (ho : o.op = .call { callee := .builtin .copy, args := #[d, s], argTypes := #[27, 27] }) (g n : Nat) (ad : Addr) (cap : Nat) (hd : a.eval d = .slice (some ⟨g, 0, none⟩) n n) (hs : a.eval s = .slice (some ad) n cap)
    (cur : Array Value) (hcs0 : Hid (cur.size = n)) (hgg0 : Hid (w.heap[g]? = some (.cells cur 9 (0, 0)))) (ss : List ByteArray) (hl : ss.length = n) (hcell : ∀ j, j < n → w.cell? (ad.add j) = some (.string (ss.getD j ByteArray.empty)))
    (base : Nat) (hb : base ≤ g)
    (h : ∀ w', Hid (w'.heap[g]? = some (.cells (ss.map Value.string).toArray 9 (0, 0))) → Below base w w' → wpList Try.prog ops Q rest (a.put o.dst (.int .i64 n)) w') : wpList Try.prog ops Q (o :: rest) a w := by
  have hcs := hcs0.out
  have hgg := hgg0.out
  obtain ⟨i0, hi, hz0, hz1, hz2⟩ := info_parts Try.info9
  have hlt : g < w.heap.size := heap_lt hgg
  refine wpList_copy_own hg d s 27 27 ho 9 Try.underlying27 (by rw [hi]; simp [hz1]) g 0 n n ad n cap hd hs cur 9 hgg (ss.map Value.string) (by simp [hl]) ?_ (by simp; omega) ?_ ?_
  · intro j v hj
    have hjl : j < ss.length := by
      have := (List.getElem?_eq_some_iff.1 hj).1
      simpa using this
    rw [hcell j (by omega), List.getD_eq_getElem?_getD]
    rw [List.getElem?_map, List.getElem?_eq_getElem hjl] at hj
    rw [List.getElem?_eq_getElem hjl]
    simpa using hj
  · intro v hv
    obtain ⟨x, _, rfl⟩ := List.mem_map.1 hv
    rfl
  · have e : (cur.toList.take 0 ++ (ss.map Value.string ++ cur.toList.drop (0 + (ss.map Value.string).length))).toArray = (ss.map Value.string).toArray := by
      rw [List.drop_eq_nil_of_le (by simp; omega)]; simp
    rw [e]
    have e2 : goInt (ss.map Value.string).length = .int .i64 n := by simp [goInt, hl]
    rw [e2]
    refine h _ (setRow_heap w g cur _ 9 _ hgg) ?_
    exact below_setRow (Below.refl base w) hb _

/-! ### the law's own memory: the text, the items, the starts, the ends -/
def toL (s : ByteArray) : List UInt8 := s.data.toList
def txt (ss : List ByteArray) (k : Nat) : List UInt8 := Pl.body ((ss.take k).map toL)
def Sx (p : List UInt8) (ss : List ByteArray) (k : Nat) : Nat := p.length + 1 + (txt ss k).length + (if k = 0 then 0 else 1)
def Ex (p : List UInt8) (ss : List ByteArray) (k : Nat) : Nat := p.length + 1 + (txt ss (k + 1)).length

/-- A row of numbers, the first k known. -/
def RowI (w : World) (g n k : Nat) (S : Nat → Nat) : Prop :=
  ∃ cur : Array Value, cur.size = n ∧ (∀ j, j < k → cur[j]? = some (.int .i64 (S j))) ∧ w.heap[g]? = some (Obj.cells cur 3 (0, 0))

theorem RowI.new {w : World} {g n : Nat} {cur : Array Value} (S : Nat → Nat) (h1 : Hid (cur.size = n)) (h2 : Hid (w.heap[g]? = some (Obj.cells cur 3 (0, 0)))) : RowI w g n 0 S := ⟨cur, h1, fun j hj => by omega, h2⟩
theorem RowI.lt {w : World} {g n k : Nat} {S : Nat → Nat} (h : RowI w g n k S) : g < w.heap.size := by obtain ⟨_, _, _, h3⟩ := h; exact heap_lt h3
theorem RowI.stp {base : Nat} {w w' : World} {g n k : Nat} {S : Nat → Nat} (h : RowI w g n k S) (hs : Stp base w w') : RowI w' g n k S := by
  obtain ⟨cur, h1, h2, h3⟩ := h
  exact ⟨cur, h1, h2, hs.keep _ _ _ _ (by decide) h3⟩
theorem RowI.has {w : World} {g n k : Nat} {S : Nat → Nat} (h : RowI w g n k S) {j : Nat} (hj : j < n) : ∃ x, w.cell? ⟨g, j, none⟩ = some x := by
  obtain ⟨cur, h1, h2, h3⟩ := h
  exact ⟨cur[j], by rw [cell_of_row w g j cur 3 _ h3, Array.getElem?_eq_getElem (by omega)]⟩
theorem RowI.cell {w : World} {g n k : Nat} {S : Nat → Nat} (h : RowI w g n k S) {j : Nat} (hj : j < k) : w.cell? ⟨g, j, none⟩ = some (.int .i64 (S j)) := by
  obtain ⟨cur, h1, h2, h3⟩ := h
  rw [cell_of_row w g j cur 3 _ h3]; exact h2 j hj
theorem RowI.free {w : World} {g n k : Nat} {S : Nat → Nat} (h : RowI w g n k S) (j : Nat) : w.frozen? ⟨g, j, none⟩ = false := by
  obtain ⟨cur, h1, h2, h3⟩ := h
  simp [World.frozen?, h3]
theorem RowI.store {w : World} {g n k : Nat} {S : Nat → Nat} (h : RowI w g n k S) (hk : k < n) (x : Int) (hx : x = S k) : RowI (w.setCell ⟨g, k, none⟩ (.int .i64 x)) g n (k + 1) S := by
  obtain ⟨cur, h1, h2, h3⟩ := h
  refine ⟨cur.setIfInBounds k (.int .i64 x), by simpa using h1, fun j hj => ?_, heap_setCell_same w g k cur 3 _ h3⟩
  by_cases e : j = k
  · subst e; rw [Array.getElem?_setIfInBounds_self_of_lt (by omega), hx]
  · rw [Array.getElem?_setIfInBounds_ne (by omega)]; exact h2 j (by omega)
theorem RowI.other {w : World} {g n k : Nat} {S : Nat → Nat} (h : RowI w g n k S) {a : Addr} (ha : g ≠ a.block) (u : Value) : RowI (w.setCell a u) g n k S := by
  obtain ⟨cur, h1, h2, h3⟩ := h
  exact ⟨cur, h1, h2, by rw [heap_setCell_other w a g u ha]; exact h3⟩

/-- The whole state. -/
structure St (w0 : World) (Z gI gS gE n : Nat) (ss : List ByteArray) (p l : List UInt8) (ks ke m : Nat) (v : Value) (wr : World) : Prop where
  own : wr.ownsRow Z 5 1 v m (bc l)
  it : n = 0 ∨ wr.heap[gI]? = some (Obj.cells (ss.map Value.string).toArray 9 (0, 0))
  st : RowI wr gS n ks (Sx p ss)
  en : RowI wr gE n ke (Ex p ss)
  ne : gS ≠ gE
  zS : Z ≤ gS
  zE : Z ≤ gE
  bel : Below Z w0 wr
  sz : Z ≤ wr.heap.size

theorem St.step {w0 : World} {Z gI gS gE n : Nat} {ss : List ByteArray} {p l l' : List UInt8} {ks ke m m' : Nat} {v v' : Value} {wr w' : World} (h : St w0 Z gI gS gE n ss p l ks ke m v wr) (hs : Stp Z wr w') (hown : w'.ownsRow Z 5 1 v' m' (bc l')) :
    St w0 Z gI gS gE n ss p l' ks ke m' v' w' :=
  ⟨hown, by rcases h.it with e | e; exact .inl e; exact .inr (hs.keep _ _ _ _ (by decide) e), h.st.stp hs, h.en.stp hs, h.ne, h.zS, h.zE, h.bel.trans hs.bel, hs.sz⟩

theorem own_store {w : World} {Z g n k : Nat} {S : Nat → Nat} {v : Value} {m : Nat} {l : List UInt8} (h : w.ownsRow Z 5 1 v m (bc l)) (hr : RowI w g n k S) (j : Nat) (u : Value) : (w.setCell ⟨g, j, none⟩ u).ownsRow Z 5 1 v m (bc l) := by
  refine ownsRow_setCell_other h ?_ u
  intro e
  obtain ⟨cur, _, _, h3⟩ := hr
  rcases h.2 with ⟨rfl, _⟩ | ⟨g', cap, cur', rfl, _, hgg, _⟩
  · cases e
  · simp only [Value.ownBlock, Option.some.injEq] at e
    subst e
    rw [hgg] at h3
    simp at h3

theorem it_store {w : World} {gI g n k : Nat} {S : Nat → Nat} {c : Array Value} (h : n = 0 ∨ w.heap[gI]? = some (Obj.cells c 9 (0, 0))) (hr : RowI w g n k S) (j : Nat) (u : Value) : n = 0 ∨ (w.setCell ⟨g, j, none⟩ u).heap[gI]? = some (Obj.cells c 9 (0, 0)) := by
  rcases h with h | h
  · exact .inl h
  right
  rw [heap_setCell_other]
  · exact h
  · obtain ⟨cur, _, _, h3⟩ := hr
    intro e
    simp only at e
    subst e
    rw [h] at h3
    simp at h3

theorem St.storeS {w0 : World} {Z gI gS gE n : Nat} {ss : List ByteArray} {p l : List UInt8} {ks ke m : Nat} {v : Value} {wr : World} (h : St w0 Z gI gS gE n ss p l ks ke m v wr) (hk : ks < n) (x : Int) (hx : x = Sx p ss ks) :
    St w0 Z gI gS gE n ss p l (ks + 1) ke m v (wr.setCell ⟨gS, ks, none⟩ (.int .i64 x)) :=
  ⟨own_store h.own h.st _ _, it_store h.it h.st _ _, h.st.store hk x hx, h.en.other (fun e => h.ne e.symm) _, h.ne, h.zS, h.zE, h.bel.setCell h.zS _, by rw [World.size_setCell]; exact h.sz⟩

theorem St.storeE {w0 : World} {Z gI gS gE n : Nat} {ss : List ByteArray} {p l : List UInt8} {ks ke m : Nat} {v : Value} {wr : World} (h : St w0 Z gI gS gE n ss p l ks ke m v wr) (hk : ke < n) (x : Int) (hx : x = Ex p ss ke) :
    St w0 Z gI gS gE n ss p l ks (ke + 1) m v (wr.setCell ⟨gE, ke, none⟩ (.int .i64 x)) :=
  ⟨own_store h.own h.en _ _, it_store h.it h.en _ _, h.st.other (fun e => h.ne e) _, h.en.store hk x hx, h.ne, h.zS, h.zE, h.bel.setCell h.zE _, by rw [World.size_setCell]; exact h.sz⟩

theorem St.item {w0 : World} {Z gI gS gE n : Nat} {ss : List ByteArray} {p l : List UInt8} {ks ke m : Nat} {v : Value} {wr : World} (h : St w0 Z gI gS gE n ss p l ks ke m v wr) (hl : ss.length = n) {k : Nat} (hk : k < n) : wr.cell? ⟨gI, k, none⟩ = some (.string (ss.getD k ByteArray.empty)) := by
  rcases h.it with h0 | h0
  · omega
  · rw [cell_of_row wr gI k _ 9 _ h0]
    simp [List.getD_eq_getElem?_getD, List.getElem?_eq_getElem (show k < ss.length by omega)]

/-! ### the text, step by step -/
theorem txt_succ (ss : List ByteArray) (k : Nat) (hk : k < ss.length) : txt ss (k + 1) = txt ss k ++ (if k = 0 then [] else [44]) ++ Pl.quoted (toL (ss.getD k ByteArray.empty)) := by
  have e : ss.getD k ByteArray.empty = ss[k] := by rw [List.getD_eq_getElem?_getD, List.getElem?_eq_getElem hk]; rfl
  unfold txt
  rw [List.take_succ_eq_append_getElem hk, List.map_append, List.map_cons, List.map_nil, Pl.body_snoc, e]
  have : ((ss.take k).map toL = []) ↔ k = 0 := by
    rw [List.map_eq_nil_iff, List.take_eq_nil_iff]
    constructor
    · rintro (h | h)
      · exact h
      · subst h; simp at hk
    · exact .inl
  simp only [this]

theorem quoted_le (l : List UInt8) : (Pl.quoted l).length ≤ 2 * l.length + 2 := by
  have := esc_le l
  simp [Pl.quoted]; omega

theorem txt_le (ss : List ByteArray) : ∀ k, k ≤ ss.length → (txt ss k).length ≤ 2 * sumz (ss.take k) + 3 * k
  | 0, _ => by simp [txt, Pl.body]
  | k + 1, h => by
    have ih := txt_le ss k (by omega)
    rw [txt_succ ss k (by omega), sumz_take ss k (by omega)]
    have hq := quoted_le (toL (ss.getD k ByteArray.empty))
    have hz : (toL (ss.getD k ByteArray.empty)).length = (ss.getD k ByteArray.empty).size := size_list _
    rw [hz] at hq
    simp only [List.length_append]
    have : (if k = 0 then ([] : List UInt8) else [44]).length ≤ 1 := by split <;> simp
    omega

end Go.Proofs.Qxb6605428a
