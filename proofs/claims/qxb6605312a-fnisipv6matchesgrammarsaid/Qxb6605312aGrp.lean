import Derived.Test.Qxb6605312aM4
namespace Go.Proofs.Qxb6605312a
open Go.RowKit

theorem sp_end : ∀ (L : List UInt8), (∀ x ∈ L, x ≠ 58) → Pl.sp L = (L, [])
  | [], _ => rfl
  | x :: L, h => by
    rw [Pl.sp, if_neg (h x (List.mem_cons_self ..)), sp_end L (fun y hy => h y (List.mem_cons_of_mem _ hy))]
theorem sp_app : ∀ (A B : List UInt8), (∀ x ∈ A, x ≠ 58) → Pl.sp (A ++ 58 :: B) = (A, (Pl.sp B).1 :: (Pl.sp B).2)
  | [], B, _ => by rw [List.nil_append, Pl.sp, if_pos rfl]
  | x :: A, B, h => by
    rw [List.cons_append, Pl.sp, if_neg (h x (List.mem_cons_self ..)), sp_app A B (fun y hy => h y (List.mem_cons_of_mem _ hy))]

def Gs (v : Bool) (L : List UInt8) : Option Nat := Pl.G v (Pl.sp L).1 (Pl.sp L).2
def StG (o : Option Nat) (v : Bool) (bs : List UInt8) (n c s i : Nat) : Prop :=
  (i ≤ n ∧ s ≤ i ∧ c ≤ i ∧ (∀ j, s ≤ j → j < i → bg bs j ≠ 58) ∧ o = (Gs v (bs.drop s)).map (· + c)) ∨ (i = n + 1 ∧ s = n + 1 ∧ c ≤ n + 2 ∧ o = some c)

theorem mid_free (bs : List UInt8) (n s i : Nat) (hl : bs.length = n) (hi : i ≤ n) (hs : s ≤ i) (hno : ∀ j, s ≤ j → j < i → bg bs j ≠ 58) : ∀ x ∈ (bs.drop s).take (i - s), x ≠ 58 := by
  intro x hx
  obtain ⟨j, hj, e⟩ := bg_mem _ _ hx
  simp only [List.length_take, List.length_drop] at hj
  rw [bg_take _ _ _ (by omega), bg_drop] at e
  exact e ▸ hno _ (by omega) (by omega)

/-- An element that ends at a colon. -/
theorem StG_colon (o : Option Nat) (v : Bool) (bs : List UInt8) (n c s i : Nat) (hl : bs.length = n) (hi : i < n) (hs : s ≤ i) (hc : c ≤ i) (hno : ∀ j, s ≤ j → j < i → bg bs j ≠ 58) (hst : bg bs i = 58)
    (ho : o = (Gs v (bs.drop s)).map (· + c)) : (Pl.okG ((bs.drop s).take (i - s)) = false → o = none) ∧ (Pl.okG ((bs.drop s).take (i - s)) = true → StG o v bs n (c + 1) (i + 1) (i + 1)) := by
  have e : bs.drop s = (bs.drop s).take (i - s) ++ 58 :: bs.drop (i + 1) := by
    have h1 : (bs.drop s).drop (i - s) = 58 :: bs.drop (i + 1) := by
      rw [List.drop_drop, show s + (i - s) = i by omega, drop_bg bs i (by omega), hst]
    rw [← h1, List.take_append_drop]
  have hG : Gs v (bs.drop s) = if Pl.okG ((bs.drop s).take (i - s)) then (Gs v (bs.drop (i + 1))).map (· + 1) else none := by
    rw [e, Gs, sp_app _ _ (mid_free bs n s i hl (by omega) hs hno), ← e]; rfl
  rw [hG] at ho
  refine ⟨fun h => by rw [ho, h]; rfl, fun h => ?_⟩
  rw [if_pos h, Option.map_map] at ho
  refine .inl ⟨by omega, by omega, by omega, fun j h1 h2 => by omega, ?_⟩
  rw [ho]
  congr 1
  funext x
  simp only [Function.comp]; omega

/-- The last element. -/
theorem StG_last (o : Option Nat) (v : Bool) (bs : List UInt8) (n c s : Nat) (hl : bs.length = n) (hs : s ≤ n) (hc : c ≤ n) (hno : ∀ j, s ≤ j → j < n → bg bs j ≠ 58)
    (ho : o = (Gs v (bs.drop s)).map (· + c)) :
    ((v && ((bs.drop s).take (n - s)).contains 46) = true → (Pl.s4 3 ((bs.drop s).take (n - s)) = false → o = none) ∧ (Pl.s4 3 ((bs.drop s).take (n - s)) = true → StG o v bs n (c + 2) (n + 1) (n + 1))) ∧
    ((v && ((bs.drop s).take (n - s)).contains 46) = false → (Pl.okG ((bs.drop s).take (n - s)) = false → o = none) ∧ (Pl.okG ((bs.drop s).take (n - s)) = true → StG o v bs n (c + 1) (n + 1) (n + 1))) := by
  have e : (bs.drop s).take (n - s) = bs.drop s := List.take_of_length_le (by rw [List.length_drop]; omega)
  have hf := mid_free bs n s n hl (Nat.le_refl _) hs hno
  rw [e] at hf ⊢
  have hG : Gs v (bs.drop s) = if v && (bs.drop s).contains 46 then (if Pl.v4 (bs.drop s) then some 2 else none) else if Pl.okG (bs.drop s) then some 1 else none := by
    rw [Gs, sp_end _ hf]; rfl
  rw [hG] at ho
  refine ⟨fun h => ⟨fun h2 => ?_, fun h2 => ?_⟩, fun h => ⟨fun h2 => ?_, fun h2 => ?_⟩⟩
  · rw [if_pos h, Pl.v4, h2] at ho; exact ho
  · rw [if_pos h, Pl.v4, h2] at ho; exact .inr ⟨rfl, rfl, by omega, by rw [ho]; simp [Nat.add_comm]⟩
  · rw [h, h2] at ho; exact ho
  · rw [h, h2] at ho; exact .inr ⟨rfl, rfl, by omega, by rw [ho]; simp [Nat.add_comm]⟩

theorem okG_all (E : List UInt8) (m : Nat) (hl : E.length = m) : Pl.okG E = (decide (1 ≤ m) && decide (m ≤ 4) && E.all Pl.hx) := by
  unfold Pl.okG; rw [hl]

def tup (o : Option Nat) : Value := .tuple #[.int .i64 ((o.getD 0 : Nat) : Int), .bool o.isSome]
theorem tup_none {o : Option Nat} (h : o = none) : Ending.returned (.tuple #[.int .i64 0, .bool false]) = .returned (tup o) := by rw [h]; rfl
theorem tup_some {o : Option Nat} {c : Nat} (h : o = some c) : Ending.returned (.tuple #[.int .i64 c, .bool true]) = .returned (tup o) := by rw [h]; rfl

set_option maxRecDepth 20000 in
set_option maxHeartbeats 4000000 in
theorem g23 (ao : Option Addr) (n cap : Nat) (bs : List UInt8) (w : World) (hV : Vw w ao n cap bs) (v : Bool) (o : Option Nat) (hb : Hid (o = Pl.mg v bs)) :
    Calls Try.prog 23 #[.slice ao n cap, .bool v] w fun e w' => e = .returned (tup o) ∧ w' = w := by
  have hn : n ≤ 1048576 := Nat.le_trans hV.hc hV.max
  have hlen : Hid (bs.length = n) := hV.len
  by_cases hz : n = 0
  · have hz' : ((n : Int) == 0) = true := by rw [hz]; rfl
    have FF : Hid (o = some 0) := by
      show o = some 0
      rw [hb.out, Pl.mg, if_pos (List.eq_nil_of_length_eq_zero (by rw [hlen.out]; exact hz))]
    clear hz
    go_enter Try.func23, Try.ntmps23
    go_wp2
    go_ret2
    exact ⟨tup_some FF.out, rfl⟩
  have hz' : ((n : Int) == 0) = false := by rw [beq_eq_false_iff_ne]; omega
  have hb0 : Hid (o = (Gs v (bs.drop 0)).map (· + 0)) := by
    have hne : bs ≠ [] := fun h => hz (by rw [← hlen.out, h]; rfl)
    show o = _
    rw [hb.out, Pl.mg, if_neg hne]
    show Gs v bs = _
    rw [List.drop_zero]
    cases Gs v bs <;> rfl
  clear hb hz
  go_enter Try.func23, Try.ntmps23
  go_wp2
  go_loop [6, 7, 8] (fun t u x => ∃ c s i : Nat, t = .int .i64 c ∧ u = .int .i64 s ∧ x = .int .i64 i ∧ c ≤ n + 2 ∧ i ≤ n + 1 ∧ Hid (StG o v bs n c s i)) (fun _ _ x => n + 1 - (intOf x).toNat)
  case atStart => exact ⟨0, 0, 0, rfl, rfl, rfl, by omega, by omega, .inl ⟨by omega, by omega, by omega, fun j h1 h2 => by omega, hb0.out⟩⟩
  case round =>
    obtain ⟨c, s, i, rfl, rfl, rfl, hc, hi, hS⟩ := hrel
    clear hb0
    by_cases hin : i ≤ n
    · obtain ⟨hs, hci, HNo, HR⟩ : s ≤ i ∧ c ≤ i ∧ Hid (∀ j, s ≤ j → j < i → bg bs j ≠ 58) ∧ Hid (o = (Gs v (bs.drop s)).map (· + c)) := by
        rcases hS.out with ⟨_, h1, h0, h2, h3⟩ | ⟨h, _⟩
        · exact ⟨h1, h0, h2, h3⟩
        · omega
      clear hS
      by_cases hilt : i < n
      · have hix := hV.ix hilt
        have hcl := hV.cell i hilt
        by_cases ch : bg bs i = 58
        · have e1 : (((bg bs i).toNat : Int) != 58) = false := neq ch
          have enn : ((i : Int) == (n : Int)) = false := by rw [beq_eq_false_iff_ne]; omega
          obtain ⟨aoe, cape, hVe, hsle⟩ := hV.mid hs hin
          have HZ : Hid (Pl.okG ((bs.drop s).take (i - s)) = false → o = none) := (StG_colon o v bs n c s i hlen.out hilt hs hci HNo.out ch HR.out).1
          have HY : Hid (Pl.okG ((bs.drop s).take (i - s)) = true → StG o v bs n (c + 1) (i + 1) (i + 1)) := (StG_colon o v bs n c s i hlen.out hilt hs hci HNo.out ch HR.out).2
          clear ch HR HNo
          generalize (bs.drop s).take (i - s) = E at hVe HZ HY
          generalize i - s = m at hVe hsle
          have hok : Hid (Pl.okG E = (decide (1 ≤ m) && decide (m ≤ 4) && E.all Pl.hx)) := okG_all E m hVe.len
          have hT : m < 1 ∨ 4 < m ∨ (1 ≤ m ∧ m ≤ 4) := by omega
          rcases hT with hT | hT | ⟨hT, hT2⟩
          · have FF : Hid (o = none) := HZ.out (by rw [hok.out, decide_eq_false (show ¬ 1 ≤ m by omega)]; rfl)
            go_wp2
            go_ret2
            exact ⟨tup_none FF.out, rfl⟩
          · have FF : Hid (o = none) := HZ.out (by rw [hok.out, decide_eq_false (show ¬ m ≤ 4 by omega)]; simp)
            go_wp2
            go_ret2
            exact ⟨tup_none FF.out, rfl⟩
          · go_wp2
            go_loop [10] (fun t => ∃ j : Nat, t = .int .i64 j ∧ j ≤ m ∧ Hid (∀ l, l < j → Pl.hx (bg E l) = true)) (fun t => m - (intOf t).toNat)
            case atStart => exact ⟨0, rfl, by omega, fun l hl => by omega⟩
            case round =>
              obtain ⟨j, rfl, hj, hdg⟩ := hrel
              by_cases hjm : j < m
              · have hxj := hVe.ix hjm
                have hcj := hVe.cell j hjm
                by_cases hd : Pl.hx (bg E j) = true
                · have HD : Hid (true = Pl.hx (bg E j)) := hd.symm
                  clear hd
                  go_wp2_with (go_at_call 32; refine (hex32 (bg E j) true HD _).mono ?_; rintro e w' ⟨rfl, rfl⟩)
                  go_round
                  case rel =>
                    refine ⟨j + 1, by go_num, by omega, fun l hl => ?_⟩
                    by_cases e : l = j
                    · rw [e]; exact HD.out.symm
                    · exact hdg.out l (by omega)
                  case measure => simp [intOf] <;> omega
                · have HD : Hid (false = Pl.hx (bg E j)) := by
                    show false = _
                    rw [eq_comm, Bool.eq_false_iff]; exact hd
                  have FF : Hid (o = none) := HZ.out (by
                    have : E.all Pl.hx = false := by
                      rw [Bool.eq_false_iff]
                      intro h
                      exact hd (List.all_eq_true.1 h _ (mem_bg E j (by rw [hVe.len]; exact hjm)))
                    rw [hok.out, this]; simp)
                  clear hd
                  go_wp2_with (go_at_call 32; refine (hex32 (bg E j) false HD _).mono ?_; rintro e w' ⟨rfl, rfl⟩)
                  go_ret2
                  exact ⟨tup_none FF.out, rfl⟩
              · have HS : Hid (StG o v bs n (c + 1) (i + 1) (i + 1)) := HY.out (by
                  have hall : E.all Pl.hx = true := by
                    rw [List.all_eq_true]
                    intro x hx
                    obtain ⟨l, hl, e⟩ := bg_mem _ _ hx
                    rw [hVe.len] at hl
                    exact e ▸ hdg.out l (by omega)
                  rw [hok.out, hall]; simp [hT, hT2])
                go_wp2
                go_round
                case rel => exact ⟨c + 1, i + 1, i + 1, by go_num, by go_num, by go_num, by omega, by omega, HS⟩
                case measure => simp [intOf] <;> omega
        · have e1 : (((bg bs i).toNat : Int) != 58) = true := nne ch
          have HC : Hid (bg bs i ≠ 58) := ch
          clear ch
          go_wp2
          go_round
          case rel =>
            refine ⟨c, s, i + 1, rfl, rfl, by go_num, by omega, by omega, .inl ⟨by omega, by omega, by omega, fun j h1 h2 => ?_, HR.out⟩⟩
            by_cases e : j = i
            · rw [e]; exact HC.out
            · exact HNo.out j h1 (by omega)
          case measure => simp [intOf] <;> omega
      · have hie : i = n := by omega
        have enn : ((i : Int) == (n : Int)) = true := by rw [hie]; simp
        obtain ⟨aoe, cape, hVe, hsle⟩ := hV.mid hs hin
        have HL := StG_last o v bs n c s hlen.out (by omega) (by omega) (by rw [← hie]; exact HNo.out) HR.out
        rw [← hie] at HL
        have HL1 : Hid ((v && ((bs.drop s).take (i - s)).contains 46) = true → (Pl.s4 3 ((bs.drop s).take (i - s)) = false → o = none) ∧ (Pl.s4 3 ((bs.drop s).take (i - s)) = true → StG o v bs n (c + 2) (i + 1) (i + 1))) := by
          have := HL.1; rw [hie] at this ⊢; exact this
        have HL2 : Hid ((v && ((bs.drop s).take (i - s)).contains 46) = false → (Pl.okG ((bs.drop s).take (i - s)) = false → o = none) ∧ (Pl.okG ((bs.drop s).take (i - s)) = true → StG o v bs n (c + 1) (i + 1) (i + 1))) := by
          have := HL.2; rw [hie] at this ⊢; exact this
        clear HL hie HR HNo
        generalize (bs.drop s).take (i - s) = E at hVe HL1 HL2
        generalize i - s = m at hVe hsle
        have hok : Hid (Pl.okG E = (decide (1 ≤ m) && decide (m ≤ 4) && E.all Pl.hx)) := okG_all E m hVe.len
        cases v with
        | false =>
          have HZ : Hid (Pl.okG E = false → o = none) := (HL2.out rfl).1
          have HY : Hid (Pl.okG E = true → StG o false bs n (c + 1) (i + 1) (i + 1)) := (HL2.out rfl).2
          clear HL1 HL2
          have hT : m < 1 ∨ 4 < m ∨ (1 ≤ m ∧ m ≤ 4) := by omega
          rcases hT with hT | hT | ⟨hT, hT2⟩
          · have FF : Hid (o = none) := HZ.out (by rw [hok.out, decide_eq_false (show ¬ 1 ≤ m by omega)]; rfl)
            go_wp2
            go_ret2
            exact ⟨tup_none FF.out, rfl⟩
          · have FF : Hid (o = none) := HZ.out (by rw [hok.out, decide_eq_false (show ¬ m ≤ 4 by omega)]; simp)
            go_wp2
            go_ret2
            exact ⟨tup_none FF.out, rfl⟩
          · go_wp2
            go_loop [10] (fun t => ∃ j : Nat, t = .int .i64 j ∧ j ≤ m ∧ Hid (∀ l, l < j → Pl.hx (bg E l) = true)) (fun t => m - (intOf t).toNat)
            case atStart => exact ⟨0, rfl, by omega, fun l hl => by omega⟩
            case round =>
              obtain ⟨j, rfl, hj, hdg⟩ := hrel
              by_cases hjm : j < m
              · have hxj := hVe.ix hjm
                have hcj := hVe.cell j hjm
                by_cases hd : Pl.hx (bg E j) = true
                · have HD : Hid (true = Pl.hx (bg E j)) := hd.symm
                  clear hd
                  go_wp2_with (go_at_call 32; refine (hex32 (bg E j) true HD _).mono ?_; rintro e w' ⟨rfl, rfl⟩)
                  go_round
                  case rel =>
                    refine ⟨j + 1, by go_num, by omega, fun l hl => ?_⟩
                    by_cases e : l = j
                    · rw [e]; exact HD.out.symm
                    · exact hdg.out l (by omega)
                  case measure => simp [intOf] <;> omega
                · have HD : Hid (false = Pl.hx (bg E j)) := by
                    show false = _
                    rw [eq_comm, Bool.eq_false_iff]; exact hd
                  have FF : Hid (o = none) := HZ.out (by
                    have : E.all Pl.hx = false := by
                      rw [Bool.eq_false_iff]
                      intro h
                      exact hd (List.all_eq_true.1 h _ (mem_bg E j (by rw [hVe.len]; exact hjm)))
                    rw [hok.out, this]; simp)
                  clear hd
                  go_wp2_with (go_at_call 32; refine (hex32 (bg E j) false HD _).mono ?_; rintro e w' ⟨rfl, rfl⟩)
                  go_ret2
                  exact ⟨tup_none FF.out, rfl⟩
              · have HS : Hid (StG o false bs n (c + 1) (i + 1) (i + 1)) := HY.out (by
                  have hall : E.all Pl.hx = true := by
                    rw [List.all_eq_true]
                    intro x hx
                    obtain ⟨l, hl, e⟩ := bg_mem _ _ hx
                    rw [hVe.len] at hl
                    exact e ▸ hdg.out l (by omega)
                  rw [hok.out, hall]; simp [hT, hT2])
                go_wp2
                go_round
                case rel => exact ⟨c + 1, i + 1, i + 1, by go_num, by go_num, by go_num, by omega, by omega, HS⟩
                case measure => simp [intOf] <;> omega
        | true =>
          by_cases hd : E.contains 46 = true
          · have HDot : Hid (true = E.contains 46) := hd.symm
            have HZ : Hid (Pl.s4 3 E = false → o = none) := (HL1.out (by rw [hd]; rfl)).1
            have HY : Hid (Pl.s4 3 E = true → StG o true bs n (c + 2) (i + 1) (i + 1)) := (HL1.out (by rw [hd]; rfl)).2
            clear HL1 HL2 hd hok
            by_cases h4 : Pl.s4 3 E = true
            · have H4 : Hid (true = Pl.s4 3 E) := h4.symm
              have HS : Hid (StG o true bs n (c + 2) (i + 1) (i + 1)) := HY.out h4
              clear h4 HZ HY
              go_wp2_with (first | (go_at_call 30; refine (dot30 aoe m cape E _ hVe true HDot).mono ?_; rintro e w' ⟨rfl, rfl⟩) | (go_at_call 31; refine (m31 aoe m cape E _ hVe true H4).mono ?_; rintro e w' ⟨rfl, rfl⟩))
              go_round
              case rel => exact ⟨c + 2, i + 1, i + 1, by go_num, by go_num, by go_num, by omega, by omega, HS⟩
              case measure => simp [intOf] <;> omega
            · have h4' : Pl.s4 3 E = false := by rw [Bool.eq_false_iff]; exact h4
              have H4 : Hid (false = Pl.s4 3 E) := h4'.symm
              have FF : Hid (o = none) := HZ.out h4'
              clear h4 h4' HZ HY
              go_wp2_with (first | (go_at_call 30; refine (dot30 aoe m cape E _ hVe true HDot).mono ?_; rintro e w' ⟨rfl, rfl⟩) | (go_at_call 31; refine (m31 aoe m cape E _ hVe false H4).mono ?_; rintro e w' ⟨rfl, rfl⟩))
              go_ret2
              exact ⟨tup_none FF.out, rfl⟩
          · have hd' : E.contains 46 = false := by rw [Bool.eq_false_iff]; exact hd
            have HDot : Hid (false = E.contains 46) := hd'.symm
            have HZ : Hid (Pl.okG E = false → o = none) := (HL2.out (by rw [hd']; rfl)).1
            have HY : Hid (Pl.okG E = true → StG o true bs n (c + 1) (i + 1) (i + 1)) := (HL2.out (by rw [hd']; rfl)).2
            clear HL1 HL2 hd hd'
            have hT : m < 1 ∨ 4 < m ∨ (1 ≤ m ∧ m ≤ 4) := by omega
            rcases hT with hT | hT | ⟨hT, hT2⟩
            · have FF : Hid (o = none) := HZ.out (by rw [hok.out, decide_eq_false (show ¬ 1 ≤ m by omega)]; rfl)
              go_wp2_with (go_at_call 30; refine (dot30 aoe m cape E _ hVe false HDot).mono ?_; rintro e w' ⟨rfl, rfl⟩)
              go_ret2
              exact ⟨tup_none FF.out, rfl⟩
            · have FF : Hid (o = none) := HZ.out (by rw [hok.out, decide_eq_false (show ¬ m ≤ 4 by omega)]; simp)
              go_wp2_with (go_at_call 30; refine (dot30 aoe m cape E _ hVe false HDot).mono ?_; rintro e w' ⟨rfl, rfl⟩)
              go_ret2
              exact ⟨tup_none FF.out, rfl⟩
            · go_wp2_with (go_at_call 30; refine (dot30 aoe m cape E _ hVe false HDot).mono ?_; rintro e w' ⟨rfl, rfl⟩)
              go_loop [10] (fun t => ∃ j : Nat, t = .int .i64 j ∧ j ≤ m ∧ Hid (∀ l, l < j → Pl.hx (bg E l) = true)) (fun t => m - (intOf t).toNat)
              case atStart => exact ⟨0, rfl, by omega, fun l hl => by omega⟩
              case round =>
                obtain ⟨j, rfl, hj, hdg⟩ := hrel
                by_cases hjm : j < m
                · have hxj := hVe.ix hjm
                  have hcj := hVe.cell j hjm
                  by_cases hd : Pl.hx (bg E j) = true
                  · have HD : Hid (true = Pl.hx (bg E j)) := hd.symm
                    clear hd
                    go_wp2_with (go_at_call 32; refine (hex32 (bg E j) true HD _).mono ?_; rintro e w' ⟨rfl, rfl⟩)
                    go_round
                    case rel =>
                      refine ⟨j + 1, by go_num, by omega, fun l hl => ?_⟩
                      by_cases e : l = j
                      · rw [e]; exact HD.out.symm
                      · exact hdg.out l (by omega)
                    case measure => simp [intOf] <;> omega
                  · have HD : Hid (false = Pl.hx (bg E j)) := by
                      show false = _
                      rw [eq_comm, Bool.eq_false_iff]; exact hd
                    have FF : Hid (o = none) := HZ.out (by
                      have : E.all Pl.hx = false := by
                        rw [Bool.eq_false_iff]
                        intro h
                        exact hd (List.all_eq_true.1 h _ (mem_bg E j (by rw [hVe.len]; exact hjm)))
                      rw [hok.out, this]; simp)
                    clear hd
                    go_wp2_with (go_at_call 32; refine (hex32 (bg E j) false HD _).mono ?_; rintro e w' ⟨rfl, rfl⟩)
                    go_ret2
                    exact ⟨tup_none FF.out, rfl⟩
                · have HS : Hid (StG o true bs n (c + 1) (i + 1) (i + 1)) := HY.out (by
                    have hall : E.all Pl.hx = true := by
                      rw [List.all_eq_true]
                      intro x hx
                      obtain ⟨l, hl, e⟩ := bg_mem _ _ hx
                      rw [hVe.len] at hl
                      exact e ▸ hdg.out l (by omega)
                    rw [hok.out, hall]; simp [hT, hT2])
                  go_wp2
                  go_round
                  case rel => exact ⟨c + 1, i + 1, i + 1, by go_num, by go_num, by go_num, by omega, by omega, HS⟩
                  case measure => simp [intOf] <;> omega
    · obtain ⟨rfl, HR⟩ : i = n + 1 ∧ Hid (o = some c) := by
        rcases hS.out with ⟨h, _⟩ | ⟨h1, _, _, h2⟩
        · omega
        · exact ⟨h1, h2⟩
      go_wp2
      go_ret2
      exact ⟨tup_some HR.out, rfl⟩
end Go.Proofs.Qxb6605312a
