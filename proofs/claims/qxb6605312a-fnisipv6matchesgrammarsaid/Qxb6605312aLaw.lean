import Derived.Test.Qxb6605312aSix
import Derived.Lib.AppendStr
import Derived.Laws.BytesArg
namespace Go.Proofs.Qxb6605312a
open Go.RowKit

theorem Try.info5 : (Try.prog.info? 5).map (fun i => (i.zero, i.size, i.bytes)) = some (some (.int .u8 0), 1, 1) := by kernel_rfl
theorem heap_lt {w : World} {k : Nat} {o : Obj} (h : w.heap[k]? = some o) : k < w.heap.size := (Array.getElem?_eq_some_iff.1 h).1

/-- 'make([]byte, n)'. -/
theorem wpList_mk8 (w : World) {ops : Array Oper} {rest : List Oper} {o : Oper} {a : Act} {Q : Exit → Act → World → Prop} (hg : o.guard = none) (l c : Operand) (hop : o.op = Op.makeSlice 22 l c) (C : Int) (n : Nat)
    (hl : a.eval l = .int .i64 C) (hc : a.eval c = .int .i64 C) (hC : C = (n : Int)) (hn : n ≤ 1048576)
    (hK : ∀ g cur w', Hid (g = w.heap.size) → Hid (cur.size = n) → Hid (w'.heap[g]? = some (.cells cur 5 (0, 0))) → Below w.heap.size w w' → wpList Try.prog ops Q rest (a.put o.dst (.slice (some ⟨g, 0, none⟩) n n)) w') :
    wpList Try.prog ops Q (o :: rest) a w := by
  obtain ⟨i0, hi, hz0, hz1, hz2⟩ := info_parts Try.info5
  refine wpList_make_full w hg l c 22 hop w.heap.size 5 i0 (.int .u8 0) 1 Try.underlying22 hi hz0 hz1 .i64 .i64 C C n hl hc hC hC (by rw [hz2]; omega) (by unfold maxLen; omega) (Nat.le_refl _) ?_
  intro w' h1 h2
  have hB : Below w.heap.size w w' := (Below.refl _ w).grown h2 (Nat.le_refl _) (fun k hk => by cases hk)
  rcases h1.2 with ⟨hv, _⟩ | ⟨g, cap, cur, hv, _, hgg, _, _, hcs, _⟩
  · simp at hv
  · simp only [Value.slice.injEq, Option.some.injEq, Addr.mk.injEq, and_true, true_and] at hv
    obtain ⟨rfl, rfl⟩ := hv
    exact hK _ cur w' rfl (by show cur.size = n; omega) hgg hB

/-- A row of bytes, the first k known. -/
def Row8 (w : World) (g n k : Nat) (bs : List UInt8) : Prop :=
  ∃ cur : Array Value, cur.size = n ∧ (∀ j, j < k → cur[j]? = some (.int .u8 (bg bs j).toNat)) ∧ w.heap[g]? = some (Obj.cells cur 5 (0, 0))

theorem Row8.lt {w : World} {g n k : Nat} {bs : List UInt8} (h : Row8 w g n k bs) : g < w.heap.size := by obtain ⟨_, _, _, h3⟩ := h; exact heap_lt h3
theorem Row8.has {w : World} {g n k : Nat} {bs : List UInt8} (h : Row8 w g n k bs) {j : Nat} (hj : j < n) : ∃ x, w.cell? ⟨g, j, none⟩ = some x := by
  obtain ⟨cur, h1, h2, h3⟩ := h
  exact ⟨cur[j], by rw [cell_of_row w g j cur 5 _ h3, Array.getElem?_eq_getElem (by omega)]⟩
theorem Row8.cell {w : World} {g n k : Nat} {bs : List UInt8} (h : Row8 w g n k bs) {j : Nat} (hj : j < k) : w.cell? ⟨g, j, none⟩ = some (.int .u8 (bg bs j).toNat) := by
  obtain ⟨cur, h1, h2, h3⟩ := h
  rw [cell_of_row w g j cur 5 _ h3]; exact h2 j hj
theorem Row8.free {w : World} {g n k : Nat} {bs : List UInt8} (h : Row8 w g n k bs) (j : Nat) : w.frozen? ⟨g, j, none⟩ = false := by
  obtain ⟨cur, h1, h2, h3⟩ := h
  simp [World.frozen?, h3]
theorem Row8.store {w : World} {g n k : Nat} {bs : List UInt8} (h : Row8 w g n k bs) (hk : k < n) (x : Int) (hx : x = (bg bs k).toNat) : Row8 (w.setCell ⟨g, k, none⟩ (.int .u8 x)) g n (k + 1) bs := by
  obtain ⟨cur, h1, h2, h3⟩ := h
  refine ⟨cur.setIfInBounds k (.int .u8 x), by simpa using h1, fun j hj => ?_, heap_setCell_same w g k cur 5 _ h3⟩
  by_cases e : j = k
  · subst e; rw [Array.getElem?_setIfInBounds_self_of_lt (by omega), hx]
  · rw [Array.getElem?_setIfInBounds_ne (by omega)]; exact h2 j (by omega)
theorem Row8.vw {w : World} {g n : Nat} {bs : List UInt8} (h : Row8 w g n n bs) (hl : bs.length = n) (hn : n ≤ 1048576) : Vw w (some ⟨g, 0, none⟩) n n bs := by
  have ha : ∀ k, adr (some ⟨g, 0, none⟩) k = ⟨g, k, none⟩ := fun k => by
    unfold adr Addr.add
    by_cases e : k = 0
    · simp [e]
    · simp [e]
  exact ⟨hl, Nat.le_refl _, hn, fun e => by simp at e, fun _ => by rw [ha]; exact h.lt, fun k hk => by rw [ha]; exact h.cell hk⟩

theorem add_block (ad : Addr) (j : Nat) : (ad.add j).block = ad.block := by
  unfold Addr.add; split <;> rfl

theorem clone8 (ad : Addr) (n cap : Nat) (bs : List UInt8) (w : World) (hn : n ≤ 1048576) (had : Hid (n ≠ 0 → ad.block < w.heap.size)) (hcell : Hid (∀ j, j < n → w.cell? (ad.add j) = some (.int .u8 (bg bs j).toNat))) :
    Calls Try.prog 8 #[.slice (some ad) n cap] w fun e w' => ∃ g, e = .returned (.slice (some ⟨g, 0, none⟩) n n) ∧ Row8 w' g n n bs ∧ Below w.heap.size w w' := by
  have qq := fun (wx : World) (a : Option Addr) (n c n' c' : Nat) => Lib.run_eql_slice_nil (P := Try.prog) wx 22 5 a n c n' c' Try.underlying22
  obtain ⟨Z, hZ⟩ : ∃ Z, Z = w.heap.size := ⟨_, rfl⟩
  have HZ : Hid (Z = w.heap.size) := hZ
  have HA : Hid (n ≠ 0 → ad.block < Z) := by have := had.out; rw [← hZ] at this; exact this
  clear hZ had
  go_enter Try.func8, Try.ntmps8
  go_wp2_with (at_make; refine wpList_mk8 _ rfl _ _ rfl _ n rfl rfl rfl (by omega) ?_; intro g cur w1 hg hc hr hB1)
  have hB : Below Z w w1 := by rw [HZ.out]; exact hB1
  have hgZ : Z ≤ g := by rw [hg.out, HZ.out]; exact Nat.le_refl _
  have hR : Row8 w1 g n 0 bs := ⟨cur, hc, fun j hj => by omega, hr⟩
  clear hg hc hr hB1 qq
  go_loopw [4] (fun i wr => ∃ k : Nat, k ≤ n ∧ i = .int .i64 k ∧ Row8 wr g n k bs ∧ Below Z w wr) (fun i _ => n - (intOf i).toNat)
  case atStart => exact ⟨0, by omega, rfl, hR, hB⟩
  case round =>
    clear hR hB
    obtain ⟨k, hk, rfl, hR, hB⟩ := hrel
    by_cases hlt : k < n
    · obtain ⟨s, hs⟩ : ∃ s : Int, s = ((bg bs k).toNat : Int) := ⟨_, rfl⟩
      have hc : wr.cell? (ad.add k) = some (.int .u8 s) := by
        rw [hB.cell (p := ad.add k) (by rw [add_block]; exact HA.out (by omega)), hs]; exact hcell.out k hlt
      obtain ⟨x, hx⟩ := hR.has hlt
      have hf := hR.free k
      have hR2 := hR.store hlt s hs
      have hB2 := hB.setCell (p := ⟨g, k, none⟩) hgZ (.int .u8 s)
      clear hs
      go_wp2
      go_roundw
      case rel => exact ⟨k + 1, by omega, by go_num, hR2, hB2⟩
      case measure => simp [intOf]; omega
    · have e : k = n := by omega
      have hR2 : Hid (Row8 wr g n n bs) := by rw [e] at hR; exact hR
      clear e
      go_wp2
      go_ret
      exact ⟨g, rfl, hR2.out, by rw [← HZ.out]; exact hB⟩

theorem clone8_nil (w : World) :
    Calls Try.prog 8 #[.slice none 0 0] w fun e w' => e = .returned (.slice none 0 0) ∧ w' = w := by
  have qq := fun (wx : World) (a : Option Addr) (n c n' c' : Nat) => Lib.run_eql_slice_nil (P := Try.prog) wx 22 5 a n c n' c' Try.underlying22
  go_enter Try.func8, Try.ntmps8
  go_wp2
  go_ret
  exact ⟨rfl, rfl⟩

theorem bytes7 (ao : Option Addr) (n cap : Nat) (w : World) (hn : n ≤ 1048576) :
    Calls Try.prog 7 #[.slice ao n cap] w fun e w' => e = .returned (.bool true) ∧ w' = w := by
  go_enter Try.func7, Try.ntmps7
  go_wp2
  go_ret
  exact ⟨rfl, rfl⟩
theorem bytes7_no (ao : Option Addr) (n cap : Nat) (w : World) (hn : 1048576 < n) :
    Calls Try.prog 7 #[.slice ao n cap] w fun e w' => e = .returned (.bool false) ∧ w' = w := by
  have h : (1048576 : Int) < (n : Int) := by omega
  go_enter Try.func7, Try.ntmps7
  go_wp2
  go_ret
  exact ⟨rfl, rfl⟩

theorem p9 (ao : Option Addr) (n cap : Nat) (bs : List UInt8) (w : World) (hV : Vw w ao n cap bs) (b : Bool) (hb : Hid (b = an Pl.par6 bs)) :
    Calls Try.prog 9 #[.slice ao n cap] w fun e w' => e = .returned (.bool b) ∧ Below w.heap.size w w' := by
  go_enter Try.func9, Try.ntmps9
  go_wp2_with (go_at_call 22; refine (p22 ao n cap bs _ hV b hb).mono ?_; rintro e w' ⟨rfl, HB⟩)
  go_ret
  exact ⟨rfl, HB⟩

theorem an_eq (bs : List UInt8) : an Pl.par6 bs = an Pl.mod6 bs := by
  unfold an
  cases zn bs with
  | none => rfl
  | some A => exact Pl.par_mod A

/-- The law, a short slice. -/
theorem law3 (ao : Option Addr) (n cap : Nat) (bs : List UInt8) (w : World) (hn : n ≤ 1048576) (hl : Hid (bs.length = n)) (hnil : Hid (ao = none → n = 0 ∧ cap = 0))
    (hlt : Hid (∀ ad, ao = some ad → n ≠ 0 → ad.block < w.heap.size)) (hcell : Hid (∀ ad, ao = some ad → ∀ j, j < n → w.cell? (ad.add j) = some (.int .u8 (bg bs j).toNat))) :
    Calls Try.prog 3 #[.slice ao n cap] w fun e w' => e = .returned (.bool true) ∧ Below w.heap.size w w' := by
  obtain ⟨b, hb⟩ : ∃ b, Hid (b = an Pl.par6 bs) := ⟨_, rfl⟩
  have hb2 : Hid (b = an Pl.mod6 bs) := by show b = _; rw [hb.out, an_eq]
  have hbb : (b == b) = true := by simp
  cases ao with
  | none =>
    obtain ⟨rfl, rfl⟩ := hnil.out rfl
    have hbs : bs = [] := List.eq_nil_of_length_eq_zero hl.out
    have hV : ∀ wx : World, Vw wx none 0 0 bs := fun wx => ⟨by rw [hbs]; rfl, Nat.le_refl _, by omega, fun _ => rfl, fun h => absurd rfl h, fun k hk => by omega⟩
    clear hbs
    go_enter Try.func3, Try.ntmps3
    go_wp2_with (first | (go_at_call 7; refine (bytes7 none 0 0 _ (by omega)).mono ?_; rintro e w' ⟨rfl, rfl⟩) | (go_at_call 8; refine (clone8_nil _).mono ?_; rintro e w' ⟨rfl, rfl⟩) | (go_at_call 9; refine (p9 none 0 0 bs _ (hV _) b hb).mono ?_; rintro e w1 ⟨rfl, HB⟩) | (go_at_call 10; refine (m10 none 0 0 bs _ (hV _) b hb2).mono ?_; rintro e w2 ⟨rfl, rfl⟩))
    go_ret
    exact ⟨rfl, HB⟩
  | some ad =>
    have hlt2 : Hid (n ≠ 0 → ad.block < w.heap.size) := hlt.out ad rfl
    have hcell2 : Hid (∀ j, j < n → w.cell? (ad.add j) = some (.int .u8 (bg bs j).toNat)) := hcell.out ad rfl
    have HW : Hid (Below w.heap.size w w) := Below.refl _ _
    clear hlt hcell hnil
    go_enter Try.func3, Try.ntmps3
    go_wp2_with (first | (go_at_call 7; refine (bytes7 (some ad) n cap _ hn).mono ?_; rintro e w0 ⟨rfl, hw0⟩; subst hw0) | (go_at_call 8; refine (clone8 ad n cap bs _ hn hlt2 hcell2).mono ?_; rintro e w1 ⟨g, rfl, hR, HB1⟩; have hV := hR.vw hl.out hn) | (go_at_call 9; refine (p9 (some ⟨g, 0, none⟩) n n bs _ hV b hb).mono ?_; rintro e w2 ⟨rfl, HB2⟩; have hV2 := hV.old HB2) | (go_at_call 10; refine (m10 (some ⟨g, 0, none⟩) n n bs _ hV2 b hb2).mono ?_; rintro e w3 ⟨rfl, hw3⟩; subst hw3))
    go_ret
    exact ⟨rfl, HB1.trans (HB2.mono HB1.size)⟩
theorem law3_long (ao : Option Addr) (n cap : Nat) (w : World) (hn : 1048576 < n) :
    Calls Try.prog 3 #[.slice ao n cap] w fun e w' => e = .returned (.bool true) ∧ Below w.heap.size w w' := by
  go_enter Try.func3, Try.ntmps3
  go_wp2_with (go_at_call 7; refine (bytes7_no ao n cap _ hn).mono ?_; rintro e w' ⟨rfl, rfl⟩)
  go_ret
  exact ⟨rfl, Below.refl _ _⟩
end Go.Proofs.Qxb6605312a
