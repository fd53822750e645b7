import Derived.Test.Qxb6605302aJoin
namespace Go.Proofs.Qxb6605302a
open Go.RowKit

theorem zzjoin15 (base : ByteArray) (hbs : base.size ≤ 16777216) (bk o n c : Nat) (xs : List ByteArray) (w : World)
    (hcells : Hid (∀ (j : Nat) x, xs[j]? = some x → w.cell? ⟨bk, o + j, none⟩ = some (.string x))) (hbk : bk < w.heap.size) (hl : Hid (xs.length = n)) (hN : n ≤ 16777216) (hcap : n ≤ c) (hlen : Hid ((Pl.amp (xs.map toL)).length ≤ 16777216)) :
    Calls Try.prog 15 #[.string base, .slice (some ⟨bk, o, none⟩) n c] w fun e w' => ∃ r : ByteArray, e = .returned (.string r) ∧ Hid (r.data.toList = Pl.J base.data.toList (xs.map toL)) ∧ Below w.heap.size w w' := by
  have h20 := join20 base hbs bk o c xs w hcells.out hbk (by rw [hl.out]; exact hN) (by rw [hl.out]; exact hcap) hlen.out
  rw [hl.out] at h20
  have H : Hid (Calls Try.prog 20 #[.string base, .slice (some ⟨bk, o, none⟩) n c] w fun e w' => ∃ r : ByteArray, e = .returned (.string r) ∧ Hid (r.data.toList = Pl.J base.data.toList (xs.map toL)) ∧ Below w.heap.size w w') := h20
  clear h20
  go_enter Try.func15, Try.ntmps15
  go_wp2_with (go_at_call 20; refine H.out.mono ?_; rintro e w2 ⟨r, rfl, hr, hb2⟩)
  go_ret
  exact ⟨r, rfl, hr, hb2⟩

theorem add_block (ad : Addr) (j : Nat) : (ad.add j).block = ad.block := by
  unfold Addr.add; split <;> rfl

theorem own_old {base : Nat} {e : TypeId} {size : Nat} {v : Value} {n : Nat} {xs : List Value} {w w' : World} (h : w.ownsRow base e size v n xs) (hB : Below w.heap.size w w') : w'.ownsRow base e size v n xs := by
  refine ⟨h.1, ?_⟩
  rcases h.2 with hn | ⟨g, cap, cur, rfl, hb, hgg, rest⟩
  · exact .inl hn
  · exact .inr ⟨g, cap, cur, rfl, hb, by rw [hB.block g (heap_lt hgg)]; exact hgg, rest⟩

/-- 'make([]string, n)'. -/
theorem wpList_mkStr (w : World) {ops : Array Oper} {rest : List Oper} {o : Oper} {a : Act} {Q : Exit → Act → World → Prop} (hg : o.guard = none) (l c : Operand) (hop : o.op = Op.makeSlice 28 l c) (C : Int) (n : Nat)
    (hl : a.eval l = .int .i64 C) (hc : a.eval c = .int .i64 C) (hC : C = (n : Int)) (hn : n ≤ 1048576)
    (hK : ∀ g cur w', Hid (g = w.heap.size) → Hid (cur.size = n) → Hid (w'.heap[g]? = some (.cells cur 9 (0, 0))) → Below w.heap.size w w' → wpList Try.prog ops Q rest (a.put o.dst (.slice (some ⟨g, 0, none⟩) n n)) w') :
    wpList Try.prog ops Q (o :: rest) a w := by
  obtain ⟨i0, hi, hz0, hz1, hz2⟩ := info_parts Try.info9
  refine wpList_make_full w hg l c 28 hop w.heap.size 9 i0 (.string ByteArray.empty) 1 Try.underlying28 hi hz0 hz1 .i64 .i64 C C n hl hc hC hC (by rw [hz2]; omega) (by unfold maxLen; omega) (Nat.le_refl _) ?_
  intro w' h1 h2
  have hB : Below w.heap.size w w' := (Below.refl _ w).grown h2 (Nat.le_refl _) (fun k hk => by cases hk)
  rcases h1.2 with ⟨hv, _⟩ | ⟨g, cap, cur, hv, _, hgg, _, _, hcs, _⟩
  · simp at hv
  · simp only [Value.slice.injEq, Option.some.injEq, Addr.mk.injEq, and_true, true_and] at hv
    obtain ⟨rfl, rfl⟩ := hv
    exact hK _ cur w' rfl (by show cur.size = n; omega) hgg hB

/-- A row of strings, the first k known. -/
def RowS (w : World) (g n k : Nat) (ss : List ByteArray) : Prop :=
  ∃ cur : Array Value, cur.size = n ∧ (∀ j, j < k → cur[j]? = some (.string (ss.getD j ByteArray.empty))) ∧ w.heap[g]? = some (Obj.cells cur 9 (0, 0))

theorem RowS.old {w w' : World} {g n k B : Nat} {ss : List ByteArray} (h : RowS w g n k ss) (hB : Below B w w') (hg : g < B) : RowS w' g n k ss := by
  obtain ⟨cur, h1, h2, h3⟩ := h
  exact ⟨cur, h1, h2, by rw [hB.block g hg]; exact h3⟩
theorem RowS.lt {w : World} {g n k : Nat} {ss : List ByteArray} (h : RowS w g n k ss) : g < w.heap.size := by obtain ⟨_, _, _, h3⟩ := h; exact heap_lt h3
theorem RowS.has {w : World} {g n k : Nat} {ss : List ByteArray} (h : RowS w g n k ss) {j : Nat} (hj : j < n) : ∃ x, w.cell? ⟨g, j, none⟩ = some x := by
  obtain ⟨cur, h1, h2, h3⟩ := h
  exact ⟨cur[j], by rw [cell_of_row w g j cur 9 _ h3, Array.getElem?_eq_getElem (by omega)]⟩
theorem RowS.cell {w : World} {g n k : Nat} {ss : List ByteArray} (h : RowS w g n k ss) {j : Nat} (hj : j < k) : w.cell? ⟨g, j, none⟩ = some (.string (ss.getD j ByteArray.empty)) := by
  obtain ⟨cur, h1, h2, h3⟩ := h
  rw [cell_of_row w g j cur 9 _ h3]; exact h2 j hj
theorem RowS.free {w : World} {g n k : Nat} {ss : List ByteArray} (h : RowS w g n k ss) (j : Nat) : w.frozen? ⟨g, j, none⟩ = false := by
  obtain ⟨cur, h1, h2, h3⟩ := h
  simp [World.frozen?, h3]
theorem RowS.store {w : World} {g n k : Nat} {ss : List ByteArray} (h : RowS w g n k ss) (hk : k < n) (x : ByteArray) (hx : x = ss.getD k ByteArray.empty) : RowS (w.setCell ⟨g, k, none⟩ (.string x)) g n (k + 1) ss := by
  obtain ⟨cur, h1, h2, h3⟩ := h
  refine ⟨cur.setIfInBounds k (.string x), by simpa using h1, fun j hj => ?_, heap_setCell_same w g k cur 9 _ h3⟩
  by_cases e : j = k
  · subst e; rw [Array.getElem?_setIfInBounds_self_of_lt (by omega), hx]
  · rw [Array.getElem?_setIfInBounds_ne (by omega)]; exact h2 j (by omega)
/-- The cells of a whole row, as strings.Join asks for them. -/
theorem RowS.cells {w : World} {g c n : Nat} {ss : List ByteArray} (h : RowS w g c n ss) (hl : ss.length = n) : ∀ (j : Nat) x, ss[j]? = some x → w.cell? ⟨g, 0 + j, none⟩ = some (.string x) := by
  intro j x hx
  have hj : j < n := by have := (List.getElem?_eq_some_iff.1 hx).1; omega
  rw [Nat.zero_add, h.cell hj, List.getD_eq_getElem?_getD, hx]; rfl

def sv (l : List ByteArray) : List Value := l.map Value.string
theorem sv_len (l : List ByteArray) : (sv l).length = l.length := by simp [sv]

/-- 'make([]string, 0, n)'. -/
theorem wpList_mk0S (w : World) {ops : Array Oper} {rest : List Oper} {o : Oper} {a : Act} {Q : Exit → Act → World → Prop} (hg : o.guard = none) (l c : Operand) (hop : o.op = Op.makeSlice 28 l c) (base : Nat) (C : Int) (n : Nat)
    (hl : a.eval l = .int .i64 0) (hc : a.eval c = .int .i64 C) (hC : C = (n : Int)) (hn : n ≤ 1048576) (hb : base ≤ w.heap.size)
    (hK : ∀ g cap w', w'.ownsRow base 9 1 (.slice (some ⟨g, 0, none⟩) 0 cap) 0 (sv []) → Below base w w' → base ≤ w'.heap.size → wpList Try.prog ops Q rest (a.put o.dst (.slice (some ⟨g, 0, none⟩) 0 cap)) w') :
    wpList Try.prog ops Q (o :: rest) a w := by
  obtain ⟨i0, hi, hz0, hz1, hz2⟩ := info_parts Try.info9
  refine wpList_make_own w hg l c 28 hop base 9 i0 (.string ByteArray.empty) 1 Try.underlying28 hi hz0 hz1 .i64 .i64 C n hl hc hC (by rw [hz2]; omega) (by unfold maxLen; omega) hb ?_
  intro w' h1 h2
  exact hK _ _ w' h1 ((Below.refl base w).grown h2 hb (fun k hk => by cases hk)) (by have := h2.size; omega)

/-- One string appended to a row of the call's own. -/
theorem wpList_pushS (wr : World) (x : ByteArray) {ops : Array Oper} {rest : List Oper} {o : Oper} {a : Act} {Q : Exit → Act → World → Prop} (hgd : o.guard = none) (s y : Operand)
    (ho : o.op = .call { callee := .builtin .append, args := #[s, y], argTypes := #[28, 28] }) (base : Nat) (v : Value) (n : Nat) (l : List ByteArray) (hs : a.eval s = v) (hown : wr.ownsRow base 9 1 v n (sv l))
    (hy : a.eval y = .slice (some ⟨wr.heap.size, 0, none⟩) 1 1) (hn : n ≤ 1048576) (hb : base ≤ wr.heap.size)
    (h : ∀ g cap w', w'.ownsRow base 9 1 (.slice (some ⟨g, 0, none⟩) (n + 1) cap) (n + 1) (sv (l ++ [x])) → Below base wr w' → base ≤ w'.heap.size → wpList Try.prog ops Q rest (a.put o.dst (.slice (some ⟨g, 0, none⟩) (n + 1) cap)) w') :
    wpList Try.prog ops Q (o :: rest) a (wr.alloc (.cells #[.string x] 9)) := by
  obtain ⟨i0, hi, hz0, hz1, hz2⟩ := info_parts Try.info9
  refine wpList_append_own _ hgd s y 28 ho base 9 i0 (.string ByteArray.empty) 1 16 Try.underlying28 hi hz0 hz1 hz2 rfl (by decide) v n (sv l) hs (hown.alloc _) ⟨wr.heap.size, 0, none⟩ 1 1 [.string x] hy rfl ?_ ?_ (by unfold maxLen; omega) (by omega) (by simp; omega) ?_
  · intro j u hj
    match j, hj with
    | 0, hj => simp at hj; subst hj; simp [Addr.add]
  · intro u hu; simp at hu; subst hu; rfl
  · intro v' w' h1 h2 _
    have h3 : w'.ownsRow base 9 1 v' (n + 1) (sv (l ++ [x])) := by simpa [sv] using h1
    rcases h1.2 with ⟨_, hn0⟩ | ⟨g, cap, cur, rfl, _⟩
    · omega
    · refine h g cap w' h3 ?_ (by have := h2.size; simp at this; omega)
      exact ((Below.refl base wr).alloc hb _).grown h2 (by simp; omega) (fun k hk => (hown.lt k hk).1)

/-- An owned row of strings, as a row of strings. -/
theorem rowS_of_own {w : World} {base g n cap : Nat} {l : List ByteArray} (h : w.ownsRow base 9 1 (.slice (some ⟨g, 0, none⟩) n cap) n (sv l)) : RowS w g cap n l ∧ base ≤ g := by
  rcases h.2 with ⟨hv, _⟩ | ⟨g', cap', cur, hv, hb, hgg, hnc, _, hcs, htake⟩
  · simp at hv
  · simp only [Value.slice.injEq, Option.some.injEq, Addr.mk.injEq, and_true, true_and] at hv
    obtain ⟨rfl, rfl⟩ := hv
    have hl : l.length = n := by have := h.1; rw [sv_len] at this; omega
    refine ⟨⟨cur, by omega, fun j hj => ?_, hgg⟩, hb⟩
    have e : (cur.toList.take (n * 1))[j]? = (sv l)[j]? := by rw [htake]
    rw [List.getElem?_take, if_pos (by omega)] at e
    rw [← Array.getElem?_toList, e]
    simp [sv, List.getD_eq_getElem?_getD, List.getElem?_eq_getElem (show j < l.length by omega)]

set_option maxHeartbeats 400000 in
/-- zzCloneStringsB1 of a slice that is not nil. -/
theorem clone14 (ad : Addr) (n cap : Nat) (ss : List ByteArray) (w : World) (hn : n ≤ 1048576) (had : Hid (n ≠ 0 → ad.block < w.heap.size)) (hcell : Hid (∀ j, j < n → w.cell? (ad.add j) = some (.string (ss.getD j ByteArray.empty)))) :
    Calls Try.prog 14 #[.slice (some ad) n cap] w fun e w' => ∃ g, e = .returned (.slice (some ⟨g, 0, none⟩) n n) ∧ w.heap.size ≤ g ∧ RowS w' g n n ss ∧ Below w.heap.size w w' := by
  have qq := fun (wx : World) (a : Option Addr) (n c n' c' : Nat) => Lib.run_eql_slice_nil (P := Try.prog) wx 28 9 a n c n' c' Try.underlying28
  obtain ⟨Z, hZ⟩ : ∃ Z, Z = w.heap.size := ⟨_, rfl⟩
  have HZ : Hid (Z = w.heap.size) := hZ
  have HA : Hid (n ≠ 0 → ad.block < Z) := by have := had.out; rw [← hZ] at this; exact this
  clear hZ had
  go_enter Try.func14, Try.ntmps14
  go_wp2_with (at_make; refine wpList_mkStr _ rfl _ _ rfl _ n rfl rfl rfl (by omega) ?_; intro g cur w1 hg hc hr hB1)
  have hB : Below Z w w1 := by rw [HZ.out]; exact hB1
  have hgZ : Z ≤ g := by rw [hg.out, HZ.out]; exact Nat.le_refl _
  have hR : RowS w1 g n 0 ss := ⟨cur, hc, fun j hj => by omega, hr⟩
  clear hg hc hr hB1 qq
  go_loopw [4] (fun i wr => ∃ k : Nat, k ≤ n ∧ i = .int .i64 k ∧ RowS wr g n k ss ∧ Below Z w wr) (fun i _ => n - (intOf i).toNat)
  case atStart => exact ⟨0, by omega, rfl, hR, hB⟩
  case round =>
    clear hR hB
    obtain ⟨k, hk, rfl, hR, hB⟩ := hrel
    by_cases hlt : k < n
    · obtain ⟨s, hs⟩ : ∃ s, s = ss.getD k ByteArray.empty := ⟨_, rfl⟩
      have hc : wr.cell? (ad.add k) = some (.string s) := by
        rw [hB.cell (p := ad.add k) (by rw [add_block]; exact HA.out (by omega)), hs]; exact hcell.out k hlt
      obtain ⟨x, hx⟩ := hR.has hlt
      have hf := hR.free k
      have hR2 := hR.store hlt s hs
      have hB2 := hB.setCell (p := ⟨g, k, none⟩) hgZ (.string s)
      clear hs
      go_wp2
      go_roundw
      case rel => exact ⟨k + 1, by omega, by go_num, hR2, hB2⟩
      case measure => simp [intOf]; omega
    · have e : k = n := by omega
      have hR2 : Hid (RowS wr g n n ss) := by rw [e] at hR; exact hR
      clear e
      go_wp2
      go_ret
      exact ⟨g, rfl, by rw [← HZ.out]; exact hgZ, hR2.out, by rw [← HZ.out]; exact hB⟩

end Go.Proofs.Qxb6605302a
