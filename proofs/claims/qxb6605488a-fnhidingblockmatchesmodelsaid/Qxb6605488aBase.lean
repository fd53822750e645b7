import Derived.Test.Qxb6605488aRows
import Derived.Test.Qxb6605488aPlain
import Derived.Test.Qxb6605488aShelf
import Derived.WalkKit
import Derived.WalkSpells
import Derived.WalkLawsBesides
import Derived.Deep.QuietTactic
import Derived.BigQuiet
import Derived.Lib.Bytealg
import Derived.Lib.Strings
namespace Go.Proofs.Qxb6605488a
open Go.RowKit

/-- The byte at m, 0 behind the end. -/
def by8 (s : ByteArray) (m : Nat) : UInt8 := s.data.toList.getD m 0
theorem by8_eq (s : ByteArray) (m : Nat) (h : m < s.size) : s[m] = by8 s m := by
  have h' : m < s.data.toList.length := by simpa using h
  unfold by8
  rw [List.getD_eq_getElem?_getD, List.getElem?_eq_getElem h']
  rfl
theorem by8_list (s : ByteArray) (m : Nat) (h : m < s.data.toList.length) : s.data.toList[m] = by8 s m := by
  unfold by8
  rw [List.getD_eq_getElem?_getD, List.getElem?_eq_getElem h]
  rfl
theorem size_list (s : ByteArray) : s.data.toList.length = s.size := by simp
theorem extract_list (s : ByteArray) (j : Nat) : (s.extract j s.size).data.toList = s.data.toList.drop j := by
  simp
  rw [List.take_of_length_le (by simp)]

theorem u8_ext (x : UInt8) (n : Nat) (hn : n < 256) (h : (x.toNat : Int) = n) : x = UInt8.ofNat n := by
  apply UInt8.toNat_inj.1
  have : x.toNat = n := by omega
  rw [this]; simp; omega

theorem ret_i64 {a b : Int} (h : a = b) : Ending.returned (.int .i64 a) = .returned (.int .i64 b) := by rw [h]

theorem ret_bool {a b : Bool} (h : a = b) : Ending.returned (.bool a) = .returned (.bool b) := by rw [h]

theorem tst (s : ByteArray) (i : Nat) (h : i < s.size) (c : UInt8) (hx : by8 s i = c) (n : Int) : ((s[i].toNat : Int) == n) = ((c.toNat : Int) == n) := by
  rw [by8_eq s i h, hx]
theorem tstn (s : ByteArray) (i : Nat) (h : i < s.size) (c : UInt8) (hx : by8 s i ≠ c) (n : Int) (hn : (c.toNat : Int) = n) : ((s[i].toNat : Int) == n) = false := by
  rw [by8_eq s i h, beq_eq_false_iff_ne, ← hn]
  intro e
  exact hx (UInt8.toNat_inj.1 (by omega))

/-- What a search for a byte finds. -/
theorem indexByte_form : ∀ (l : List UInt8) (c : UInt8), (Lib.indexByte l c = -1 ∧ ∀ x ∈ l, x ≠ c) ∨ ∃ (k : Nat) (h : k < l.length), Lib.indexByte l c = k ∧ l[k] = c ∧ ∀ j (hj : j < l.length), j < k → l[j] ≠ c
  | [], c => by left; simp [Lib.indexByte]
  | b :: l, c => by
    by_cases hb : b = c
    · right; exact ⟨0, by simp, by simp [Lib.indexByte, hb], by simp [hb], fun j _ hj => by omega⟩
    · have hbc : (b == c) = false := by simpa using hb
      rcases indexByte_form l c with ⟨h, ha⟩ | ⟨k, hk, he, hkc, hno⟩
      · left; exact ⟨by simp [Lib.indexByte, hbc, h], by intro x hx; rcases List.mem_cons.1 hx with rfl | hx; exact hb; exact ha x hx⟩
      · right
        refine ⟨k + 1, by simp; omega, ?_, by simpa using hkc, ?_⟩
        · have : ((k : Int) == -1) = false := by rw [beq_eq_false_iff_ne]; omega
          simp [Lib.indexByte, hbc, he, this]
        · intro j hj hjk
          cases j with
          | zero => simpa using hb
          | succ j => simpa using hno j (by simpa using hj) (by omega)



def mkI (x : Int) : Bool := x == 32 || x == 9 || x == 62 || x == 45 || x == 43 || x == 42 || x == 46 || x == 41 || (decide (48 ≤ x) && decide (x ≤ 57))

theorem mkI_mk (c : UInt8) : mkI c.toNat = Pl.mk c := by
  have e : ∀ (n : Nat), n < 256 → (((c.toNat : Int) == (n : Int)) = (c == UInt8.ofNat n)) := fun n hn => by
    rw [Bool.eq_iff_iff, beq_iff_eq, beq_iff_eq]
    constructor
    · exact u8_ext _ n hn
    · intro h; rw [h]; simp; omega
  have e32 := e 32 (by decide); have e9 := e 9 (by decide); have e62 := e 62 (by decide); have e45 := e 45 (by decide)
  have e43 := e 43 (by decide); have e42 := e 42 (by decide); have e46 := e 46 (by decide); have e41 := e 41 (by decide)
  have e48 : decide ((48 : Int) ≤ (c.toNat : Int)) = decide (48 ≤ c.toNat) := by simp only [decide_eq_decide]; omega
  have e57 : decide ((c.toNat : Int) ≤ 57) = decide (c.toNat ≤ 57) := by simp only [decide_eq_decide]; omega
  unfold mkI Pl.mk
  rw [e48, e57]
  show ((c.toNat : Int) == ((32 : Nat) : Int) || (c.toNat : Int) == ((9 : Nat) : Int) || (c.toNat : Int) == ((62 : Nat) : Int) || (c.toNat : Int) == ((45 : Nat) : Int) || (c.toNat : Int) == ((43 : Nat) : Int) || (c.toNat : Int) == ((42 : Nat) : Int) || (c.toNat : Int) == ((46 : Nat) : Int) || (c.toNat : Int) == ((41 : Nat) : Int) || _) = _
  rw [e32, e9, e62, e45, e43, e42, e46, e41]
  rfl

/-- zzIsMarker. -/
theorem marker11 (x : Int) (w : World) : Calls Try.prog 11 #[.int .u8 x] w fun e w' => e = .returned (.bool (mkI x)) ∧ w' = w := by
  go_enter Try.func11, Try.ntmps11
  go_wp2
  all_goals go_ret
  all_goals refine ⟨ret_bool ?_, rfl⟩
  all_goals first | (simp [mkI, *]; done) | (simp [mkI, *]; omega)

/-- The same with the answer named. -/
theorem marker_r (x : Int) (c : UInt8) (hx : Hid (x = c.toNat)) (b : Bool) (hb : Hid (Pl.mk c = b)) (w : World) : Calls Try.prog 11 #[.int .u8 x] w fun e w' => e = .returned (.bool b) ∧ w' = w := by
  have := marker11 x w
  rw [hx.out, mkI_mk, hb.out] at this
  rw [hx.out]
  exact this

theorem drop_list (s : ByteArray) (k : Nat) : List.take (s.size - k) (List.drop k s.data.toList) = s.data.toList.drop k := by
  rw [List.take_of_length_le (by rw [List.length_drop, size_list]; exact Nat.le_refl _)]

/-- One list opens another. -/
theorem opens_iff : ∀ (a b : List UInt8), a.isPrefixOf b = true ↔ ∃ r, a ++ r = b
  | [], b => ⟨fun _ => ⟨b, rfl⟩, fun _ => by simp [List.isPrefixOf]⟩
  | x :: a, [] => ⟨fun h => by simp [List.isPrefixOf] at h, fun ⟨r, h⟩ => by simp at h⟩
  | x :: a, y :: b => by
    have ih := opens_iff a b
    constructor
    · intro h
      simp only [List.isPrefixOf, Bool.and_eq_true, beq_iff_eq] at h
      obtain ⟨r, hr⟩ := ih.1 h.2
      exact ⟨r, by rw [h.1, List.cons_append, hr]⟩
    · intro ⟨r, h⟩
      rw [List.cons_append] at h
      obtain ⟨h1, h2⟩ := List.cons.inj h
      simp only [List.isPrefixOf, Bool.and_eq_true, beq_iff_eq]
      exact ⟨h1, ih.2 ⟨r, h2⟩⟩

/-- zzHasPrefixAt at an index within the text. -/
theorem preAt (s p : ByteArray) (k : Nat) (hs : s.size ≤ 1099511627776) (hp : p.size ≤ 1048576) (hk : k ≤ s.size) (b : Bool) (hb : Hid (b = p.data.toList.isPrefixOf (s.data.toList.drop k))) (w : World) :
    Calls Try.prog 22 #[.string s, .int .i64 k, .string p] w fun e w' => e = .returned (.bool b) ∧ ∃ n, w' = w.drewN n := by
  by_cases hl : s.size - k < p.size
  · have F : Hid (b = false) := by
      show b = false
      rw [hb.out]
      apply Bool.eq_false_iff.2
      intro h
      obtain ⟨r, hr⟩ := (opens_iff _ _).1 h
      have := congrArg List.length hr
      rw [List.length_append, List.length_drop, size_list, size_list] at this
      omega
    have hl' : (s.size : Int) - (k : Int) < (p.size : Int) := by omega
    clear hl
    go_enter Try.func22, Try.ntmps22
    go_wp2
    go_ret
    exact ⟨ret_bool F.out.symm, 0, rfl⟩
  · have hl' : ¬ (s.size : Int) - (k : Int) < (p.size : Int) := by omega
    have HL : Hid (k + p.size ≤ s.size) := by show _ ≤ _; omega
    clear hl
    go_enter Try.func22, Try.ntmps22
    go_wp2
    go_loopw [7] (fun t wr => ∃ (j q : Nat), j ≤ p.size ∧ t = .int .i64 j ∧ wr = w.drewN q ∧ Hid (∀ m, m < j → by8 s (k + m) = by8 p m)) (fun t _ => p.size - (intOf t).toNat)
    case atStart => exact ⟨0, 0, by omega, rfl, rfl, fun m hm => by omega⟩
    case round =>
      obtain ⟨j, q, hj, rfl, rfl, hsame⟩ := hrel
      by_cases hlt : j < p.size
      · obtain ⟨t, ht⟩ : ∃ t, t = k + j := ⟨_, rfl⟩
        have hls : t < s.size := by have := HL.out; omega
        have i1 : (j : Int) < (p.size : Int) := by omega
        have i2 : (t : Int) < (s.size : Int) := by omega
        have hw : IntKind.i64.wrap ((k : Int) + (j : Int)) = (t : Int) := by
          have := HL.out
          rw [IntKind.wrap_i64]; omega
        by_cases he : by8 s t = by8 p j
        · have e : ((s[t].toNat : Int) != (p[j].toNat : Int)) = false := by
            rw [by8_eq s t hls, by8_eq p j hlt, he]; simp
          have HT : Hid (by8 s (k + j) = by8 p j) := by rw [← ht]; exact he
          clear ht he
          go_wp2_with fail
          go_quiet (fail)
          go_wp2
          go_roundw
          case rel =>
            refine ⟨j + 1, _, by omega, by go_num, rfl, fun m hm => ?_⟩
            by_cases e : m = j
            · rw [e]; exact HT.out
            · exact hsame.out m (by omega)
          case measure => simp [intOf]; omega
        · have e : ((s[t].toNat : Int) != (p[j].toNat : Int)) = true := by
            rw [by8_eq s t hls, by8_eq p j hlt, bne_iff_ne]
            intro h
            exact he (UInt8.toNat_inj.1 (by omega))
          have F : Hid (b = false) := by
            show b = false
            rw [hb.out]
            apply Bool.eq_false_iff.2
            intro h
            obtain ⟨r, hr⟩ := (opens_iff _ _).1 h
            apply he
            rw [ht]
            have h1 : j < p.data.toList.length := by rw [size_list]; exact hlt
            have h2 : k + j < s.data.toList.length := by rw [size_list]; have := HL.out; omega
            have h3 : (s.data.toList.drop k)[j]'(by rw [List.length_drop]; omega) = p.data.toList[j] := by
              simp only [← hr]
              rw [List.getElem_append_left h1]
            rw [List.getElem_drop, by8_list, by8_list] at h3
            exact h3
          clear ht he
          go_wp2_with fail
          go_quiet (fail)
          go_wp2
          go_ret
          exact ⟨ret_bool F.out.symm, q + nq, by simp⟩
      · have F : Hid (b = true) := by
          show b = true
          rw [hb.out]
          apply (opens_iff _ _).2
          refine ⟨(s.data.toList.drop k).drop p.size, ?_⟩
          have h1 : p.data.toList = (s.data.toList.drop k).take p.size := by
            apply List.ext_getElem
            · rw [size_list, List.length_take, List.length_drop, size_list]; have := HL.out; omega
            · intro m h1 h2
              rw [List.getElem_take, List.getElem_drop, by8_list, by8_list]
              rw [size_list] at h1
              exact (hsame.out m (by omega)).symm
          conv => lhs; lhs; rw [h1]
          exact List.take_append_drop _ _
        go_wp2
        go_ret
        exact ⟨ret_bool F.out.symm, _, rfl⟩

theorem tw_len (f : UInt8 → Bool) (L : List UInt8) : ∀ k, k ≤ L.length → (∀ j (h : j < L.length), j < k → f L[j] = true) → (∀ h : k < L.length, f L[k] = false) → (L.takeWhile f).length = k := by
  induction L with
  | nil => intro k hk _ _; simp at hk; simp [hk]
  | cons x L ih =>
    intro k hk h1 h2
    cases k with
    | zero =>
      have := h2 (by simp)
      simp only [List.getElem_cons_zero] at this
      simp [this]
    | succ k =>
      have hx := h1 0 (by simp) (by omega)
      simp only [List.getElem_cons_zero] at hx
      rw [List.takeWhile_cons, if_pos hx, List.length_cons]
      congr 1
      refine ih k (by simpa using hk) (fun j h hj => ?_) (fun h => ?_)
      · have := h1 (j + 1) (by simpa using h) (by omega)
        simpa using this
      · have := h2 (by simpa using h)
        simpa using this

theorem tw_all (f : UInt8 → Bool) (L : List UInt8) (h : ∀ x ∈ L, f x = true) : L.takeWhile f = L := by
  induction L with
  | nil => rfl
  | cons x L ih => rw [List.takeWhile_cons, if_pos (h x (List.mem_cons_self ..)), ih (fun y hy => h y (List.mem_cons_of_mem _ hy))]

theorem run96 (s : ByteArray) (k : Nat) (hk : k ≤ s.size) (h1 : ∀ m, m < k → by8 s m = 96) (h2 : k < s.size → by8 s k ≠ 96) : (s.data.toList.takeWhile (· == 96)).length = k := by
  refine tw_len _ _ k (by rw [size_list]; exact hk) (fun j h hj => ?_) (fun h => ?_)
  · rw [by8_list, h1 j hj]; rfl
  · rw [by8_list]; rw [size_list] at h; simpa using h2 h

/-- runLen of a text that opens with a backtick, from its start. -/
theorem runLen29 (s : ByteArray) (hs : s.size ≤ 1099511627776) (h0 : 0 < s.size) (hx : Hid (by8 s 0 = 96)) (r : Nat) (hr : Hid ((s.data.toList.takeWhile (· == 96)).length = r)) (w : World) :
    Calls Try.prog 29 #[.string s, .int .i64 0] w fun e w' => e = .returned (.int .i64 r) ∧ ∃ n, w' = w.drewN n := by
  go_enter Try.func29, Try.ntmps29
  go_wp2
  go_loopw [5] (fun t wr => ∃ (k q : Nat), 1 ≤ k ∧ k ≤ s.size ∧ t = .int .i64 k ∧ wr = w.drewN q ∧ Hid (∀ m, m < k → by8 s m = 96)) (fun t _ => s.size - (intOf t).toNat)
  case atStart => exact ⟨1, 0, by omega, by omega, rfl, rfl, fun m hm => by rw [show m = 0 from by omega]; exact hx.out⟩
  case round =>
    obtain ⟨k, q, hk1, hk, rfl, rfl, hall⟩ := hrel
    have hw : IntKind.i64.wrap ((0 : Int) + (k : Int)) = (k : Int) := by rw [IntKind.wrap_i64]; omega
    have hw2 : IntKind.i64.wrap (k : Int) = (k : Int) := by rw [IntKind.wrap_i64]; omega
    have i0 : (0 : Int) < (s.size : Int) := by omega
    by_cases hlt : k < s.size
    · have i1 : (k : Int) < (s.size : Int) := by omega
      by_cases he : by8 s k = 96
      · have e : ((s[k].toNat : Int) == (s[0].toNat : Int)) = true := by rw [by8_eq s k hlt, by8_eq s 0 h0, he, hx.out]; rfl
        have HE : Hid (by8 s k = 96) := he
        clear he
        go_wp2_with fail
        go_quiet (fail)
        go_wp2
        go_roundw
        case rel =>
          refine ⟨k + 1, _, by omega, by omega, by go_num, rfl, fun m hm => ?_⟩
          by_cases e : m = k
          · rw [e]; exact HE.out
          · exact hall.out m (by omega)
        case measure => simp [intOf]; omega
      · have e : ((s[k].toNat : Int) == (s[0].toNat : Int)) = false := by
          rw [by8_eq s k hlt, by8_eq s 0 h0, hx.out, beq_eq_false_iff_ne]
          intro h
          exact he (u8_ext _ 96 (by decide) h)
        have F : Hid (k = r) := by
          show k = r
          rw [← hr.out]
          refine (run96 s k hk hall.out (fun _ => he)).symm
        clear he
        go_wp2_with fail
        go_quiet (fail)
        go_wp2
        go_ret
        exact ⟨ret_i64 (by rw [F.out]), q + nq, by simp⟩
    · have i1 : decide ((k : Int) < (s.size : Int)) = false := decide_eq_false (by omega)
      have F : Hid (k = r) := by
        show k = r
        rw [← hr.out]
        refine (run96 s k hk hall.out (fun h => absurd h hlt)).symm
      go_wp2_with fail
      go_quiet (fail)
      go_wp2
      go_ret
      exact ⟨ret_i64 (by rw [F.out]), q + nq, by simp⟩

/-- internal/stringslite.Cut at a separator of one byte: found. -/
theorem slCut_hit (s : ByteArray) (hs : s.size ≤ 1099511627776) (c : UInt8) (k : Nat) (hk : k < s.size) (h : Hid (Lib.indexByte s.data.toList c = k)) (w : World) :
    Calls Try.prog 34 #[.string s, .string ⟨#[c]⟩] w fun e w' => e = .returned (.tuple #[.string (s.extract 0 k), .string (s.extract (k + 1) s.size), .bool true]) ∧ ∃ n, w' = w.drewN n := by
  have H : Hid (∀ wx : World, Calls Try.prog 41 #[.string s, .string ⟨#[c]⟩] wx fun e w' => e = .returned (.int .i64 k) ∧ w' = wx) := fun wx => by
    have := Try.stringslite_Index_one s c wx
    rw [h.out] at this
    exact this
  have hw : IntKind.i64.wrap ((k : Int) + 1) = (k : Int) + 1 := by rw [IntKind.wrap_i64]; omega
  have i1 : (k : Int) + 1 ≤ (s.size : Int) := by omega
  have i2 : (k : Int) ≤ (s.size : Int) := by omega
  go_enter Try.func34, Try.ntmps34
  go_wp2_with (go_at_call 41; refine (H.out _).mono ?_; rintro e w' ⟨rfl, rfl⟩)
  go_quiet (fail)
  go_wp2
  go_ret3
  exact ⟨rfl, _, rfl⟩

/-- .. not found. -/
theorem slCut_miss (s : ByteArray) (c : UInt8) (h : Hid (Lib.indexByte s.data.toList c = -1)) (w : World) :
    Calls Try.prog 34 #[.string s, .string ⟨#[c]⟩] w fun e w' => e = .returned (.tuple #[.string s, .string ⟨#[]⟩, .bool false]) ∧ ∃ n, w' = w.drewN n := by
  have H : Hid (∀ wx : World, Calls Try.prog 41 #[.string s, .string ⟨#[c]⟩] wx fun e w' => e = .returned (.int .i64 (-1)) ∧ w' = wx) := fun wx => by
    have := Try.stringslite_Index_one s c wx
    rw [h.out] at this
    exact this
  go_enter Try.func34, Try.ntmps34
  go_wp2_with (go_at_call 41; refine (H.out _).mono ?_; rintro e w' ⟨rfl, rfl⟩)
  go_ret3
  exact ⟨rfl, 0, rfl⟩

/-- strings.Cut at a separator of one byte: what stands ahead of the first such byte. -/
theorem cut27 (s : ByteArray) (hs : s.size ≤ 1099511627776) (c : UInt8) :
    ∃ line y : ByteArray, ∃ b : Bool, Hid (line.data.toList = s.data.toList.takeWhile (· != c)) ∧ line.size ≤ s.size ∧
      Hid (∀ w : World, Calls Try.prog 27 #[.string s, .string ⟨#[c]⟩] w fun e w' => e = .returned (.tuple #[.string line, .string y, .bool b]) ∧ ∃ n, w' = w.drewN n) := by
  rcases indexByte_form s.data.toList c with ⟨h, ha⟩ | ⟨k, hk, he, hkc, hno⟩
  · refine ⟨s, ⟨#[]⟩, false, ?_, Nat.le_refl _, ?_⟩
    · show _ = _
      rw [tw_all]
      intro x hx
      simpa using ha x hx
    · have H : Hid (∀ wx : World, Calls Try.prog 34 #[.string s, .string ⟨#[c]⟩] wx fun e w' => e = .returned (.tuple #[.string s, .string ⟨#[]⟩, .bool false]) ∧ ∃ n, w' = wx.drewN n) := fun wx => slCut_miss s c h wx
      clear h ha
      intro w
      go_enter Try.func27, Try.ntmps27
      go_wp2_with (go_at_call 34; refine (H.out _).mono ?_; rintro e w' ⟨rfl, n, rfl⟩)
      go_ret3
      exact ⟨rfl, _, rfl⟩
  · have hks : k < s.size := by rw [size_list] at hk; exact hk
    refine ⟨s.extract 0 k, s.extract (k + 1) s.size, true, ?_, ?_, ?_⟩
    · show _ = _
      have h1 : (s.extract 0 k).data.toList = s.data.toList.take k := by simp
      have h2 := tw_len (fun x => x != c) s.data.toList k (by omega) (fun j h hj => by simpa using hno j h hj) (fun h => by simpa using hkc)
      rw [h1]
      have h3 : ∀ (f : UInt8 → Bool) (L : List UInt8), L.take (L.takeWhile f).length = L.takeWhile f := fun f L => by
        induction L with
        | nil => rfl
        | cons x L ih =>
          rw [List.takeWhile_cons]
          split
          · simp [ih]
          · simp
      have h4 := h3 (fun x => x != c) s.data.toList
      rw [h2] at h4
      exact h4
    · rw [← size_list, ← size_list]; simp; omega
    · have H : Hid (∀ wx : World, Calls Try.prog 34 #[.string s, .string ⟨#[c]⟩] wx fun e w' => e = .returned (.tuple #[.string (s.extract 0 k), .string (s.extract (k + 1) s.size), .bool true]) ∧ ∃ n, w' = wx.drewN n) := fun wx => slCut_hit s hs c k hks he wx
      clear he hkc hno
      intro w
      go_enter Try.func27, Try.ntmps27
      go_wp2_with (go_at_call 34; refine (H.out _).mono ?_; rintro e w' ⟨rfl, n, rfl⟩)
      go_ret3
      exact ⟨rfl, _, rfl⟩

end Go.Proofs.Qxb6605488a
