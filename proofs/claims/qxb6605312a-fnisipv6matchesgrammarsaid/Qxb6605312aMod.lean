import Derived.Test.Qxb6605312aGrp
namespace Go.Proofs.Qxb6605312a
open Go.RowKit

theorem G_le (v : Bool) : ∀ (r : List (List UInt8)) (f : List UInt8) (c : Nat), Pl.G v f r = some c → c ≤ r.length + 2
  | [], f, c, h => by
    rw [Pl.G] at h
    split at h
    · split at h <;> simp at h; omega
    · split at h <;> simp at h; omega
  | a :: r, f, c, h => by
    rw [Pl.G] at h
    split at h
    · cases hG : Pl.G v a r with
      | none => rw [hG] at h; simp at h
      | some d =>
        rw [hG] at h
        simp at h
        have := G_le v r a d hG
        simp; omega
    · simp at h
theorem sp_len : ∀ L : List UInt8, (Pl.sp L).2.length ≤ L.length
  | [] => by simp [Pl.sp]
  | x :: L => by
    have := sp_len L
    rw [Pl.sp]
    split
    · simp; omega
    · simp; omega
theorem mg_le (v : Bool) (L : List UInt8) (c : Nat) (h : Pl.mg v L = some c) : c ≤ L.length + 2 := by
  unfold Pl.mg at h
  split at h
  · simp at h; omega
  · have h1 := G_le v _ _ _ h
    have h2 := sp_len L
    omega

theorem g23_some (ao : Option Addr) (n cap : Nat) (bs : List UInt8) (w : World) (hV : Vw w ao n cap bs) (v : Bool) (c : Nat) (hb : Hid (Pl.mg v bs = some c)) :
    Calls Try.prog 23 #[.slice ao n cap, .bool v] w fun e w' => e = .returned (.tuple #[.int .i64 c, .bool true]) ∧ w' = w :=
  (g23 ao n cap bs w hV v (some c) hb.out.symm).mono fun _ _ h => ⟨h.1, h.2⟩
theorem g23_none (ao : Option Addr) (n cap : Nat) (bs : List UInt8) (w : World) (hV : Vw w ao n cap bs) (v : Bool) (hb : Hid (Pl.mg v bs = none)) :
    Calls Try.prog 23 #[.slice ao n cap, .bool v] w fun e w' => e = .returned (.tuple #[.int .i64 0, .bool false]) ∧ w' = w :=
  (g23 ao n cap bs w hV v none hb.out.symm).mono fun _ _ h => ⟨h.1, h.2⟩

/-- The address ahead of the first '%'. -/
def zn (bs : List UInt8) : Option (List UInt8) :=
  if (bs.takeWhile (· != 37)).length = bs.length then some bs else if (bs.takeWhile (· != 37)).length + 1 = bs.length then none else some (bs.take (bs.takeWhile (· != 37)).length)
theorem tw37 (bs : List UInt8) (k : Nat) (hk : k ≤ bs.length) (hno : ∀ j, j < k → bg bs j ≠ 37) (hat : k < bs.length → bg bs k = 37) : (bs.takeWhile (· != 37)).length = k :=
  Pl.tw_len _ bs k hk (fun j h hj => by rw [bg_eq _ _ h, bne_iff_ne]; exact hno j hj) (fun h => by rw [bg_eq _ _ h, hat h]; rfl)
theorem zn_no (bs : List UInt8) (hno : ∀ j, j < bs.length → bg bs j ≠ 37) : zn bs = some bs := by
  unfold zn; rw [tw37 bs bs.length (Nat.le_refl _) hno (fun h => by omega), if_pos rfl]
theorem zn_at (bs : List UInt8) (k : Nat) (hk : k < bs.length) (hno : ∀ j, j < k → bg bs j ≠ 37) (hat : bg bs k = 37) : zn bs = if k + 1 = bs.length then none else some (bs.take k) := by
  unfold zn; rw [tw37 bs k (by omega) hno (fun _ => hat), if_neg (by omega)]
def an (f : List UInt8 → Bool) (bs : List UInt8) : Bool := match zn bs with | none => false | some A => f A

theorem Vw.ix1 {w : World} {ao : Option Addr} {n cap : Nat} {bs : List UInt8} (h : Vw w ao n cap bs) {k : Nat} (hk : k + 1 < n) :
    ∀ wx : World, (Instr.indexAt 22 (.slice ao n cap) (.int .i64 ((k : Int) + 1))).run Try.prog wx = .ok (.pointer (some (adr ao (k + 1)))) wx := fun wx => by
  have := h.ix hk wx
  rw [Int.natCast_add] at this
  exact this
theorem Vw.offk2 {w : World} {ao : Option Addr} {n cap : Nat} {bs : List UInt8} (h : Vw w ao n cap bs) {k : Nat} (h1 : k + 2 ≤ n) :
    ∃ ao' cap', Vw w ao' (n - (k + 2)) cap' (bs.drop (k + 2)) ∧ ∀ wx : World, (Instr.slice 22 (.slice ao n cap) (some (.int .i64 ((k : Int) + 2))) none none).run Try.prog wx = .ok (.slice ao' (n - (k + 2)) cap') wx := by
  obtain ⟨a, c, h1, h2⟩ := h.off h1
  exact ⟨a, c, h1, fun wx => by have := h2 wx; rw [Int.natCast_add] at this; exact this⟩

theorem dbl_step (A : List UInt8) (k : Nat) (hk : k + 1 < A.length) (h : ¬ (bg A k = 58 ∧ bg A (k + 1) = 58)) : Pl.dbl (A.drop k) = (Pl.dbl (A.drop (k + 1))).map (· + 1) := by
  rw [drop_bg A k (by omega), Pl.dbl, if_neg]
  rw [drop_bg A (k + 1) hk]
  simpa using h
theorem dbl_at (A : List UInt8) (k : Nat) (hk : k + 1 < A.length) (h : bg A k = 58 ∧ bg A (k + 1) = 58) : Pl.dbl (A.drop k) = some 0 := by
  rw [drop_bg A k (by omega), Pl.dbl, if_pos]
  rw [drop_bg A (k + 1) hk]
  simpa using h
theorem dbl_short (A : List UInt8) (h : A.length ≤ 1) : Pl.dbl A = none := by
  cases A with
  | nil => rfl
  | cons x t =>
    cases t with
    | nil => simp [Pl.dbl]
    | cons y t => simp at h

def fin2 (l r : Option Nat) : Bool := match l, r with | some nl, some nr => decide (nl + nr ≤ 7) | _, _ => false
def fin1 (l : Option Nat) : Bool := match l with | some n => decide (n = 8) | none => false
theorem mod6_some (A : List UInt8) (q : Nat) (h : Pl.dbl A = some q) : Pl.mod6 A = fin2 (Pl.mg false (A.take q)) (Pl.mg true (A.drop (q + 2))) := by
  unfold Pl.mod6; rw [h]; rfl
theorem mod6_none (A : List UInt8) (h : Pl.dbl A = none) : Pl.mod6 A = fin1 (Pl.mg true A) := by
  unfold Pl.mod6; rw [h]; rfl

set_option maxRecDepth 20000 in
set_option maxHeartbeats 4000000 in
theorem m10 (ao : Option Addr) (n cap : Nat) (bs : List UInt8) (w : World) (hV : Vw w ao n cap bs) (b : Bool) (hb : Hid (b = an Pl.mod6 bs)) :
    Calls Try.prog 10 #[.slice ao n cap] w fun e w' => e = .returned (.bool b) ∧ w' = w := by
  have hn : n ≤ 1048576 := Nat.le_trans hV.hc hV.max
  have hlen : Hid (bs.length = n) := hV.len
  go_enter Try.func10, Try.ntmps10
  go_wp2
  go_loop [3, 4] (fun t u => ∃ k : Nat, t = .slice ao n cap ∧ u = .int .i64 k ∧ k ≤ n ∧ Hid (∀ j, j < k → bg bs j ≠ 37)) (fun _ u => n - (intOf u).toNat)
  case atStart => exact ⟨0, rfl, rfl, by omega, fun j hj => by omega⟩
  case round =>
    obtain ⟨k, rfl, rfl, hk, hno⟩ := hrel
    by_cases hlt : k < n
    · have hix := hV.ix hlt
      have hcl := hV.cell k hlt
      by_cases c : bg bs k = 37
      · have e1 : (((bg bs k).toNat : Int) == 37) = true := teq c
        have hzn := zn_at bs k (by rw [hlen.out]; exact hlt) hno.out c
        rw [hlen.out] at hzn
        by_cases hl : k + 1 = n
        · have F : Hid (false = b) := by show false = b; rw [hb.out, an, hzn, if_pos hl]
          have e2 : ((k : Int) == (n : Int) - 1) = true := by rw [beq_iff_eq]; omega
          clear c hl hzn
          go_wp2
          go_ret
          exact ⟨ret_bool F.out, rfl⟩
        · have hb2 : Hid (b = Pl.mod6 (bs.take k)) := by show b = _; rw [hb.out, an, hzn, if_neg hl]
          have e2 : ((k : Int) == (n : Int) - 1) = false := by rw [beq_eq_false_iff_ne]; omega
          clear c hl hzn hb
          obtain ⟨aoA, capA, hVA, hslA⟩ := hV.upto (hi := k) hk
          generalize bs.take k = A at hVA hb2
          go_wp2
          clear e1 e2 hix hcl hslA hno hlen hV
          have hlA : Hid (A.length = k) := hVA.len
          go_loop [5, 6] (fun t u => ∃ q : Nat, t = .int .i64 (-1) ∧ u = .int .i64 q ∧ q ≤ k ∧ Hid (Pl.dbl A = (Pl.dbl (A.drop q)).map (· + q))) (fun _ u => k - (intOf u).toNat)
          case atStart => exact ⟨0, rfl, rfl, by omega, by show _ = _; rw [List.drop_zero]; cases Pl.dbl A <;> rfl⟩
          case round =>
            obtain ⟨q, rfl, rfl, hq, hdb⟩ := hrel
            by_cases hq1 : q + 1 < k
            · have hxq := hVA.ix (k := q) (by omega)
              have hcq := hVA.cell q (by omega)
              have hxq1 := hVA.ix1 hq1
              have hcq1 := hVA.cell (q + 1) hq1
              have t1 : (q : Int) + 1 < (k : Int) := by omega
              have hqA : q + 1 < A.length := by rw [hlA.out]; exact hq1
              by_cases cc : bg A q = 58 ∧ bg A (q + 1) = 58
              · have hd : Hid (Pl.dbl A = some q) := by show _ = _; rw [hdb.out, dbl_at A q hqA cc]; simp
                have e1 : (((bg A q).toNat : Int) == 58) = true := teq cc.1
                have e2 : (((bg A (q + 1)).toNat : Int) == 58) = true := teq cc.2
                have hm : Hid (b = fin2 (Pl.mg false (A.take q)) (Pl.mg true (A.drop (q + 2)))) := hb2.out.trans (mod6_some A q hd.out)
                clear cc hqA hdb
                obtain ⟨aoL, capL, hVL, hslL⟩ := hVA.upto (hi := q) hq
                obtain ⟨aoR, capR, hVR, hslR⟩ := hVA.offk2 (k := q) (by omega)
                generalize A.take q = L at hVL hm
                generalize A.drop (q + 2) = R at hVR hm
                generalize hnr : k - (q + 2) = nr at hVR hslR
                go_wp2_with fail
                cases hL : Pl.mg false L with
                | none =>
                  have HL : Hid (Pl.mg false L = none) := hL
                  have F : Hid (false = b) := by show false = b; rw [hm.out, hL]; rfl
                  clear hL hm
                  refine (g23_none aoL q capL L _ hVL false HL).mono ?_
                  rintro e w' ⟨rfl, rfl⟩
                  go_wp2_with fail
                  cases hR : Pl.mg true R with
                  | none =>
                    have HR : Hid (Pl.mg true R = none) := hR
                    clear hR
                    refine (g23_none aoR nr capR R _ hVR true HR).mono ?_
                    rintro e w' ⟨rfl, rfl⟩
                    go_wp2
                    go_ret
                    exact ⟨ret_bool F.out, rfl⟩
                  | some cr =>
                    have HR : Hid (Pl.mg true R = some cr) := hR
                    clear hR
                    refine (g23_some aoR nr capR R _ hVR true cr HR).mono ?_
                    rintro e w' ⟨rfl, rfl⟩
                    go_wp2
                    go_ret
                    exact ⟨ret_bool F.out, rfl⟩
                | some cl =>
                  have HL : Hid (Pl.mg false L = some cl) := hL
                  refine (g23_some aoL q capL L _ hVL false cl HL).mono ?_
                  rintro e w' ⟨rfl, rfl⟩
                  have hcl : cl ≤ 2000000 := by have := mg_le _ _ _ hL; have := hVL.len; omega
                  rw [hL] at hm
                  clear hL
                  go_wp2_with fail
                  cases hR : Pl.mg true R with
                  | none =>
                    have HR : Hid (Pl.mg true R = none) := hR
                    have F : Hid (false = b) := by show false = b; rw [hm.out, hR]; rfl
                    clear hR hm
                    refine (g23_none aoR nr capR R _ hVR true HR).mono ?_
                    rintro e w' ⟨rfl, rfl⟩
                    go_wp2
                    go_ret
                    exact ⟨ret_bool F.out, rfl⟩
                  | some cr =>
                    have HR : Hid (Pl.mg true R = some cr) := hR
                    have F : Hid (decide ((cl : Int) + (cr : Int) ≤ 7) = b) := by
                      show _ = b
                      rw [hm.out, hR, fin2, Bool.eq_iff_iff]; simp; omega
                    have hcr : cr ≤ 2000000 := by have := mg_le _ _ _ hR; have := hVR.len; omega
                    clear hR hm
                    refine (g23_some aoR nr capR R _ hVR true cr HR).mono ?_
                    rintro e w' ⟨rfl, rfl⟩
                    go_wp2
                    go_ret
                    exact ⟨ret_bool F.out, rfl⟩
              · have HS : Hid (Pl.dbl A = (Pl.dbl (A.drop (q + 1))).map (· + (q + 1))) := by
                  show _ = _
                  rw [hdb.out, dbl_step A q hqA cc, Option.map_map]
                  congr 1
                  funext x
                  simp only [Function.comp]; omega
                by_cases c1 : bg A q = 58
                · have c2 : bg A (q + 1) ≠ 58 := fun h => cc ⟨c1, h⟩
                  have e1 : (((bg A q).toNat : Int) == 58) = true := teq c1
                  have e2 : (((bg A (q + 1)).toNat : Int) == 58) = false := tne c2
                  clear c1 c2 cc
                  go_wp2
                  go_round
                  case rel => exact ⟨q + 1, rfl, by go_num, by omega, HS⟩
                  case measure => simp [intOf] <;> omega
                · have e1 : (((bg A q).toNat : Int) == 58) = false := tne c1
                  clear c1 cc
                  go_wp2
                  go_round
                  case rel => exact ⟨q + 1, rfl, by go_num, by omega, HS⟩
                  case measure => simp [intOf] <;> omega
            · have hd : Pl.dbl A = none := by
                rw [hdb.out, dbl_short (A.drop q) (by rw [List.length_drop, hlA.out]; omega)]; rfl
              have hm : Hid (b = fin1 (Pl.mg true A)) := hb2.out.trans (mod6_none A hd)
              have t1 : ¬ ((q : Int) + 1 < (k : Int)) := by omega
              clear hd hdb
              cases hL : Pl.mg true A with
              | none =>
                have HL : Hid (Pl.mg true A = none) := hL
                have F : Hid (false = b) := by show false = b; rw [hm.out, hL]; rfl
                clear hL hm
                go_wp2_with (go_at_call 23; refine (g23_none aoA k capA A _ hVA true HL).mono ?_; rintro e w' ⟨rfl, rfl⟩)
                go_ret
                exact ⟨ret_bool F.out, rfl⟩
              | some cl =>
                have HL : Hid (Pl.mg true A = some cl) := hL
                have F : Hid (((cl : Int) == 8) = b) := by
                  show _ = b
                  rw [hm.out, hL, fin1, Bool.eq_iff_iff]; simp; omega
                clear hL hm
                go_wp2_with (go_at_call 23; refine (g23_some aoA k capA A _ hVA true cl HL).mono ?_; rintro e w' ⟨rfl, rfl⟩)
                go_ret
                exact ⟨ret_bool F.out, rfl⟩
      · have e1 : (((bg bs k).toNat : Int) == 37) = false := tne c
        have HC : Hid (bg bs k ≠ 37) := c
        clear c
        go_wp2
        go_round
        case rel =>
          refine ⟨k + 1, rfl, by go_num, by omega, fun j hj => ?_⟩
          by_cases e : j = k
          · rw [e]; exact HC.out
          · exact hno.out j (by omega)
        case measure => simp [intOf] <;> omega
    · have hb2 : Hid (b = Pl.mod6 bs) := by
        show b = _
        rw [hb.out, an, zn_no bs (fun j hj => hno.out j (by rw [hlen.out] at hj; omega))]
      go_wp2
      clear hno hlen hb
      generalize bs = A at hV hb2
      have hlA : Hid (A.length = n) := hV.len
      go_loop [5, 6] (fun t u => ∃ q : Nat, t = .int .i64 (-1) ∧ u = .int .i64 q ∧ q ≤ n ∧ Hid (Pl.dbl A = (Pl.dbl (A.drop q)).map (· + q))) (fun _ u => n - (intOf u).toNat)
      case atStart => exact ⟨0, rfl, rfl, by omega, by show _ = _; rw [List.drop_zero]; cases Pl.dbl A <;> rfl⟩
      case round =>
        obtain ⟨q, rfl, rfl, hq, hdb⟩ := hrel
        by_cases hq1 : q + 1 < n
        · have hxq := hV.ix (k := q) (by omega)
          have hcq := hV.cell q (by omega)
          have hxq1 := hV.ix1 hq1
          have hcq1 := hV.cell (q + 1) hq1
          have t1 : (q : Int) + 1 < (n : Int) := by omega
          have hqA : q + 1 < A.length := by rw [hlA.out]; exact hq1
          by_cases cc : bg A q = 58 ∧ bg A (q + 1) = 58
          · have hd : Hid (Pl.dbl A = some q) := by show _ = _; rw [hdb.out, dbl_at A q hqA cc]; simp
            have e1 : (((bg A q).toNat : Int) == 58) = true := teq cc.1
            have e2 : (((bg A (q + 1)).toNat : Int) == 58) = true := teq cc.2
            have hm : Hid (b = fin2 (Pl.mg false (A.take q)) (Pl.mg true (A.drop (q + 2)))) := hb2.out.trans (mod6_some A q hd.out)
            clear cc hqA hdb
            obtain ⟨aoL, capL, hVL, hslL⟩ := hV.upto (hi := q) hq
            obtain ⟨aoR, capR, hVR, hslR⟩ := hV.offk2 (k := q) (by omega)
            generalize A.take q = L at hVL hm
            generalize A.drop (q + 2) = R at hVR hm
            generalize hnr : n - (q + 2) = nr at hVR hslR
            go_wp2_with fail
            cases hL : Pl.mg false L with
            | none =>
              have HL : Hid (Pl.mg false L = none) := hL
              have F : Hid (false = b) := by show false = b; rw [hm.out, hL]; rfl
              clear hL hm
              refine (g23_none aoL q capL L _ hVL false HL).mono ?_
              rintro e w' ⟨rfl, rfl⟩
              go_wp2_with fail
              cases hR : Pl.mg true R with
              | none =>
                have HR : Hid (Pl.mg true R = none) := hR
                clear hR
                refine (g23_none aoR nr capR R _ hVR true HR).mono ?_
                rintro e w' ⟨rfl, rfl⟩
                go_wp2
                go_ret
                exact ⟨ret_bool F.out, rfl⟩
              | some cr =>
                have HR : Hid (Pl.mg true R = some cr) := hR
                clear hR
                refine (g23_some aoR nr capR R _ hVR true cr HR).mono ?_
                rintro e w' ⟨rfl, rfl⟩
                go_wp2
                go_ret
                exact ⟨ret_bool F.out, rfl⟩
            | some cl =>
              have HL : Hid (Pl.mg false L = some cl) := hL
              refine (g23_some aoL q capL L _ hVL false cl HL).mono ?_
              rintro e w' ⟨rfl, rfl⟩
              have hcl : cl ≤ 2000000 := by have := mg_le _ _ _ hL; have := hVL.len; omega
              rw [hL] at hm
              clear hL
              go_wp2_with fail
              cases hR : Pl.mg true R with
              | none =>
                have HR : Hid (Pl.mg true R = none) := hR
                have F : Hid (false = b) := by show false = b; rw [hm.out, hR]; rfl
                clear hR hm
                refine (g23_none aoR nr capR R _ hVR true HR).mono ?_
                rintro e w' ⟨rfl, rfl⟩
                go_wp2
                go_ret
                exact ⟨ret_bool F.out, rfl⟩
              | some cr =>
                have HR : Hid (Pl.mg true R = some cr) := hR
                have F : Hid (decide ((cl : Int) + (cr : Int) ≤ 7) = b) := by
                  show _ = b
                  rw [hm.out, hR, fin2, Bool.eq_iff_iff]; simp; omega
                have hcr : cr ≤ 2000000 := by have := mg_le _ _ _ hR; have := hVR.len; omega
                clear hR hm
                refine (g23_some aoR nr capR R _ hVR true cr HR).mono ?_
                rintro e w' ⟨rfl, rfl⟩
                go_wp2
                go_ret
                exact ⟨ret_bool F.out, rfl⟩
          · have HS : Hid (Pl.dbl A = (Pl.dbl (A.drop (q + 1))).map (· + (q + 1))) := by
              show _ = _
              rw [hdb.out, dbl_step A q hqA cc, Option.map_map]
              congr 1
              funext x
              simp only [Function.comp]; omega
            by_cases c1 : bg A q = 58
            · have c2 : bg A (q + 1) ≠ 58 := fun h => cc ⟨c1, h⟩
              have e1 : (((bg A q).toNat : Int) == 58) = true := teq c1
              have e2 : (((bg A (q + 1)).toNat : Int) == 58) = false := tne c2
              clear c1 c2 cc
              go_wp2
              go_round
              case rel => exact ⟨q + 1, rfl, by go_num, by omega, HS⟩
              case measure => simp [intOf] <;> omega
            · have e1 : (((bg A q).toNat : Int) == 58) = false := tne c1
              clear c1 cc
              go_wp2
              go_round
              case rel => exact ⟨q + 1, rfl, by go_num, by omega, HS⟩
              case measure => simp [intOf] <;> omega
        · have hd : Pl.dbl A = none := by
            rw [hdb.out, dbl_short (A.drop q) (by rw [List.length_drop, hlA.out]; omega)]; rfl
          have hm : Hid (b = fin1 (Pl.mg true A)) := hb2.out.trans (mod6_none A hd)
          have t1 : ¬ ((q : Int) + 1 < (n : Int)) := by omega
          clear hd hdb
          cases hL : Pl.mg true A with
          | none =>
            have HL : Hid (Pl.mg true A = none) := hL
            have F : Hid (false = b) := by show false = b; rw [hm.out, hL]; rfl
            clear hL hm
            go_wp2_with (go_at_call 23; refine (g23_none ao n cap A _ hV true HL).mono ?_; rintro e w' ⟨rfl, rfl⟩)
            go_ret
            exact ⟨ret_bool F.out, rfl⟩
          | some cl =>
            have HL : Hid (Pl.mg true A = some cl) := hL
            have F : Hid (((cl : Int) == 8) = b) := by
              show _ = b
              rw [hm.out, hL, fin1, Bool.eq_iff_iff]; simp; omega
            clear hL hm
            go_wp2_with (go_at_call 23; refine (g23_some ao n cap A _ hV true cl HL).mono ?_; rintro e w' ⟨rfl, rfl⟩)
            go_ret
            exact ⟨ret_bool F.out, rfl⟩
end Go.Proofs.Qxb6605312a
