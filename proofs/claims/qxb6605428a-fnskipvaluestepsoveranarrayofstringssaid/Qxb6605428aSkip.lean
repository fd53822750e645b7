import Derived.Test.Qxb6605428aRows
import Derived.Test.Qxb6605428aPlain
import Derived.WalkKit
import Derived.WalkSpells
import Derived.WalkLawsBesides
import Derived.Lib.Bytealg
import Derived.Lib.Strings
namespace Go.Proofs.Qxb6605428a
open Go.RowKit


set_option maxRecDepth 100000 in
/-- internal/stringslite.IndexByte. -/
theorem slIndexByte (s : ByteArray) (c : Int) (w : World) :
    Calls Try.prog 18 #[.string s, .int .u8 c] w fun e w' => e = .returned (.int .i64 (Lib.indexByte s.data.toList c.toNat.toUInt8)) ∧ w' = w := by
  go_enter Try.func18, Try.ntmps18
  go_wp2
  rw [run_callFunc_extern Try.func19 (by kernel_rfl) (by kernel_rfl) (by kernel_rfl) (e := Extern.BytealgIndexByte.indexByte) (by kernel_rfl), Lib.run_indexByteString]
  simp only [Result.andThen]
  rw [Oper.upon_value]
  go_wp2
  go_ret
  exact ⟨rfl, rfl⟩

/-- strings.IndexByte. -/
theorem sIndexByte (s : ByteArray) (c : Int) (w : World) :
    Calls Try.prog 16 #[.string s, .int .u8 c] w fun e w' => e = .returned (.int .i64 (Lib.indexByte s.data.toList c.toNat.toUInt8)) ∧ w' = w := by
  go_enter Try.func16, Try.ntmps16
  go_wp2_with (go_at_call 18; refine (slIndexByte _ _ _).mono ?_; rintro e w' ⟨rfl, rfl⟩)
  go_ret
  exact ⟨rfl, rfl⟩

/-- What a search for a byte finds. -/
theorem indexByte_form : ∀ (l : List UInt8) (c : UInt8), (Lib.indexByte l c = -1 ∧ ∀ x ∈ l, x ≠ c) ∨ ∃ (k : Nat) (h : k < l.length), Lib.indexByte l c = k ∧ l[k] = c ∧ ∀ j (hj : j < l.length), j < k → l[j] ≠ c
  | [], c => by left; simp [Lib.indexByte]
  | b :: l, c => by
    by_cases hb : b = c
    · right; exact ⟨0, by simp, by simp [Lib.indexByte, hb], by simp [hb], fun j _ hj => by omega⟩
    · have hbc : (b == c) = false := by simpa using hb
      rcases indexByte_form l c with ⟨h, ha⟩ | ⟨k, hk, he, hkc, hno⟩
      · left; exact ⟨by simp [Lib.indexByte, hbc, h], by intro x hx; rcases List.mem_cons.1 hx with rfl | hx; exact hb; exact ha x hx⟩
      · right
        refine ⟨k + 1, by simp; omega, ?_, by simpa using hkc, ?_⟩
        · have : ((k : Int) == -1) = false := by rw [beq_eq_false_iff_ne]; omega
          simp [Lib.indexByte, hbc, he, this]
        · intro j hj hjk
          cases j with
          | zero => simpa using hb
          | succ j => simpa using hno j (by simpa using hj) (by omega)

theorem skipString_ge (s : ByteArray) (i : Nat) (h : s.size ≤ i) (w : World) :
    Calls Try.prog 8 #[.string s, .int .i64 i] w fun e w' => e = .returned (.int .i64 (-1)) ∧ w' = w := by
  go_enter Try.func8, Try.ntmps8
  go_wp2
  go_ret
  exact ⟨rfl, rfl⟩

theorem skipString_ne (s : ByteArray) (i : Nat) (h : i < s.size) (hx : ((s[i].toNat : Int) != 34) = true) (w : World) :
    Calls Try.prog 8 #[.string s, .int .i64 i] w fun e w' => e = .returned (.int .i64 (-1)) ∧ w' = w := by
  go_enter Try.func8, Try.ntmps8
  go_wp2
  go_ret
  exact ⟨rfl, rfl⟩


/-- The byte at m, 0 behind the end. -/
def by8 (s : ByteArray) (m : Nat) : UInt8 := s.data.toList.getD m 0
theorem by8_eq (s : ByteArray) (m : Nat) (h : m < s.size) : s[m] = by8 s m := by
  have h' : m < s.data.toList.length := by simpa using h
  unfold by8
  rw [List.getD_eq_getElem?_getD, List.getElem?_eq_getElem h']
  rfl
theorem by8_list (s : ByteArray) (m : Nat) (h : m < s.data.toList.length) : s.data.toList[m] = by8 s m := by
  unfold by8
  rw [List.getD_eq_getElem?_getD, List.getElem?_eq_getElem h]
  rfl
theorem size_list (s : ByteArray) : s.data.toList.length = s.size := by simp
theorem extract_list (s : ByteArray) (j : Nat) : (s.extract j s.size).data.toList = s.data.toList.drop j := by
  simp
  rw [List.take_of_length_le (by simp)]

theorem u8_ext (x : UInt8) (n : Nat) (hn : n < 256) (h : (x.toNat : Int) = n) : x = UInt8.ofNat n := by
  apply UInt8.toNat_inj.1
  have : x.toNat = n := by omega
  rw [this]; simp; omega

theorem ret_i64 {a b : Int} (h : a = b) : Ending.returned (.int .i64 a) = .returned (.int .i64 b) := by rw [h]

/-- The same with the answer named. -/
theorem sIndexByte_r (s : ByteArray) (c : Int) (r : Int) (h : Hid (Lib.indexByte s.data.toList c.toNat.toUInt8 = r)) (w : World) :
    Calls Try.prog 16 #[.string s, .int .u8 c] w fun e w' => e = .returned (.int .i64 r) ∧ w' = w := by
  have := sIndexByte s c w
  rw [h.out] at this
  exact this

/-- The search from j on, parted. -/
theorem search_from (s : ByteArray) (j : Nat) (hj : j ≤ s.size) :
    (Hid (Lib.indexByte (s.extract j s.size).data.toList (34 : Int).toNat.toUInt8 = -1) ∧ Hid (∀ m, j ≤ m → m < s.size → by8 s m ≠ 34)) ∨
    ∃ q : Nat, j + q < s.size ∧ Hid (Lib.indexByte (s.extract j s.size).data.toList (34 : Int).toNat.toUInt8 = q) ∧ Hid (by8 s (j + q) = 34) ∧ Hid (∀ m, j ≤ m → m < j + q → by8 s m ≠ 34) := by
  have hc : (34 : Int).toNat.toUInt8 = 34 := rfl
  have hlen : (s.data.toList.drop j).length = s.size - j := by rw [List.length_drop, size_list]
  rw [extract_list, hc]
  rcases indexByte_form (s.data.toList.drop j) 34 with ⟨h1, h2⟩ | ⟨k, hk, h1, h2, h3⟩
  · left
    refine ⟨h1, fun m hm1 hm2 => ?_⟩
    have hm : m - j < (s.data.toList.drop j).length := by omega
    have := h2 _ (List.getElem_mem hm)
    rw [List.getElem_drop] at this
    rw [by8_list] at this
    have e : j + (m - j) = m := by omega
    rw [e] at this
    exact this
  · right
    refine ⟨k, by omega, h1, ?_, fun m hm1 hm2 => ?_⟩
    · rw [List.getElem_drop, by8_list] at h2
      exact h2
    · have := h3 (m - j) (by omega) (by omega)
      rw [List.getElem_drop, by8_list] at this
      have e : j + (m - j) = m := by omega
      rw [e] at this
      exact this

theorem fin_hit (s : ByteArray) (i j q p b : Nat) (hij : i + 1 ≤ j) (hq : j + q < s.size) (hp : p + b + 1 = j + q) (_hpi : i ≤ p) (hj1 : by8 s (j - 1) = 34) (hqq : by8 s (j + q) = 34)
    (hno : ∀ m, j ≤ m → m < j + q → by8 s m ≠ 34) (hbs : ∀ m, p < m → m < j + q → by8 s m = 92) (hend : p = i ∨ by8 s p ≠ 92) (hpre : Pl.skipStr s.data.toList i = Pl.scan false (s.data.toList.drop j) j) :
    Pl.skipStr s.data.toList i = if b % 2 = 0 then ((j + q : Nat) : Int) + 1 else Pl.scan false (s.data.toList.drop (j + q + 1)) ((j + q : Nat) + 1) := by
  have hsz := size_list s
  have hpj : j ≤ p + 1 := by
    apply Classical.byContradiction
    intro hc
    have := hbs (j - 1) (by omega) (by omega)
    rw [hj1] at this
    exact absurd this (by decide)
  rw [hpre]
  apply Pl.scan_hit s.data.toList j (j + q) b (by omega) (by omega) (by omega)
  · rw [by8_list]; exact hqq
  · intro m hm h1 h2; rw [by8_list]; exact hno m h1 h2
  · intro m hm h1 h2; rw [by8_list]; exact hbs m (by omega) h2
  · rcases hend with h | h
    · left; omega
    · by_cases e : j = p + 1
      · left; omega
      · right
        have e2 : j + q - b - 1 = p := by omega
        refine ⟨by omega, ?_⟩
        rw [by8_list, e2]
        exact h

set_option maxHeartbeats 400000 in
theorem skipString_loop (s : ByteArray) (i : Nat) (hs : s.size ≤ 1099511627776) (h : i < s.size) (hx : ((s[i].toNat : Int) != 34) = false) (w : World) :
    Calls Try.prog 8 #[.string s, .int .i64 i] w fun e w' => e = .returned (.int .i64 (Pl.skipStr s.data.toList i)) ∧ w' = w := by
  have hxi : Hid (by8 s i = 34) := by
    have : (s[i].toNat : Int) = 34 := by simpa using hx
    rw [← by8_eq s i h]
    exact u8_ext _ 34 (by decide) this
  have hst : Hid (Pl.skipStr s.data.toList i = Pl.scan false (s.data.toList.drop (i + 1)) (i + 1)) := by
    have h' : i < s.data.toList.length := by rw [size_list]; exact h
    exact Pl.skipStr_eq _ _ h' (by rw [by8_list]; exact hxi.out)
  go_enter Try.func8, Try.ntmps8
  go_wp2
  go_loop [5] (fun t => ∃ j : Nat, i + 1 ≤ j ∧ j ≤ s.size ∧ t = .int .i64 j ∧ Hid (by8 s (j - 1) = 34) ∧ Hid (Pl.skipStr s.data.toList i = Pl.scan false (s.data.toList.drop j) j)) (fun t => s.size - (intOf t).toNat)
  case atStart => exact ⟨i + 1, by omega, by omega, by go_num, hxi, hst⟩
  case round =>
    clear hxi hst
    obtain ⟨j, hj1, hj2, rfl, hjq, hpre⟩ := hrel
    rcases search_from s j hj2 with ⟨hr, hno⟩ | ⟨q, hq, hr, hqq, hno⟩
    · go_wp2_with (go_at_call 16; refine (sIndexByte_r _ _ _ hr _).mono ?_; rintro e w' ⟨rfl, rfl⟩)
      go_ret
      refine ⟨ret_i64 ?_, rfl⟩
      rw [hpre.out]
      refine (Pl.scan_miss _ _ (fun x hx => ?_) _).symm
      obtain ⟨m, hm, rfl⟩ := List.getElem_of_mem hx
      rw [List.getElem_drop, by8_list]
      rw [List.length_drop, size_list] at hm
      exact hno.out (j + m) (by omega) (by omega)
    · go_wp2_with (go_at_call 16; refine (sIndexByte_r _ _ _ hr _).mono ?_; rintro e w' ⟨rfl, rfl⟩)
      go_loop [7, 8] (fun t7 t8 => ∃ b p : Nat, p + b < j + q ∧ i ≤ p ∧ t7 = .int .i64 b ∧ t8 = .int .i64 p ∧ Hid (p + b + 1 = j + q) ∧ Hid (∀ m, p < m → m < j + q → by8 s m = 92)) (fun _ t8 => (intOf t8).toNat)
      case atStart => exact ⟨0, j + q - 1, by omega, by omega, rfl, by go_num, (by omega : j + q - 1 + 0 + 1 = j + q), fun m h1 h2 => by omega⟩
      case round =>
        obtain ⟨b, p, hpb, hip, rfl, rfl, hpb1, hbs⟩ := hrel
        clear hr
        by_cases hc : i < p ∧ by8 s p = 92
        · obtain ⟨hlt, h92⟩ := hc
          have hps : p < s.size := by omega
          have e92 : ((s[p].toNat : Int) == 92) = true := by rw [by8_eq s p hps, h92]; rfl
          have H92 : Hid (by8 s p = 92) := h92
          clear h92
          go_wp2
          go_round
          case rel =>
            refine ⟨b + 1, p - 1, by omega, by omega, by go_num, by go_num, (by have := hpb1.out; omega : p - 1 + (b + 1) + 1 = j + q), fun m h1 h2 => ?_⟩
            by_cases hm : m = p
            · rw [hm]; exact H92.out
            · exact hbs.out m (by omega) h2
          case measure => simp [intOf]; omega
        · have F : Hid (Pl.skipStr s.data.toList i = if b % 2 = 0 then ((j + q : Nat) : Int) + 1 else Pl.scan false (s.data.toList.drop (j + q + 1)) ((j + q : Nat) + 1)) := by
            refine fin_hit s i j q p b hj1 hq hpb1.out hip hjq.out hqq.out hno.out hbs.out ?_ hpre.out
            by_cases e : p = i
            · exact .inl e
            · exact .inr fun h => hc ⟨by omega, h⟩
          have HC : Hid (¬ (i < p ∧ by8 s p = 92)) := hc
          clear hc hpre hno hbs hpb1
          have hpsz : p < s.size := by omega
          by_cases hlt : i < p
          · have e92 : ((s[p].toNat : Int) == 92) = false := by
              have h92 : by8 s p ≠ 92 := fun h => HC.out ⟨hlt, h⟩
              rw [by8_eq s p hpsz, beq_eq_false_iff_ne]
              intro h
              exact h92 (u8_ext _ 92 (by decide) h)
            by_cases hb2 : b % 2 = 0
            · have hb3 : ((b : Int) % 2 == 0) = true := by rw [beq_iff_eq]; omega
              go_wp2
              go_ret
              exact ⟨ret_i64 (by rw [F.out, if_pos hb2]; omega), rfl⟩
            · have hb3 : ((b : Int) % 2 == 0) = false := by rw [beq_eq_false_iff_ne]; omega
              go_wp2
              go_round
              case rel => exact ⟨j + q + 1, by omega, by omega, by go_num, hqq, by have := F.out; rw [if_neg hb2] at this; exact this⟩
              case measure => simp [intOf]; omega
          · by_cases hb2 : b % 2 = 0
            · have hb3 : ((b : Int) % 2 == 0) = true := by rw [beq_iff_eq]; omega
              go_wp2
              go_ret
              exact ⟨ret_i64 (by rw [F.out, if_pos hb2]; omega), rfl⟩
            · have hb3 : ((b : Int) % 2 == 0) = false := by rw [beq_eq_false_iff_ne]; omega
              go_wp2
              go_round
              case rel => exact ⟨j + q + 1, by omega, by omega, by go_num, hqq, by have := F.out; rw [if_neg hb2] at this; exact this⟩
              case measure => simp [intOf]; omega

/-- SkipString, for every text and every index from 0 on. -/
theorem skipString_any (s : ByteArray) (i : Nat) (hs : s.size ≤ 1099511627776) (w : World) :
    Calls Try.prog 8 #[.string s, .int .i64 i] w fun e w' => e = .returned (.int .i64 (Pl.skipStr s.data.toList i)) ∧ w' = w := by
  by_cases h : i < s.size
  · cases hx : ((s[i].toNat : Int) != 34)
    · exact skipString_loop s i hs h hx w
    · have e : Pl.skipStr s.data.toList i = -1 := by
        refine Pl.skipStr_ne _ _ (by rw [size_list]; exact h) ?_
        rw [by8_list, ← by8_eq s i h]
        intro he
        rw [he] at hx
        exact absurd hx (by decide)
      rw [e]
      exact skipString_ne s i h hx w
  · rw [Pl.skipStr_ge _ _ (by rw [size_list]; omega)]
    exact skipString_ge s i (by omega) w

/-- The same with the answer named. -/
theorem skipString_r (s : ByteArray) (i : Nat) (hs : s.size ≤ 1099511627776) (r : Int) (h : Hid (Pl.skipStr s.data.toList i = r)) (w : World) :
    Calls Try.prog 8 #[.string s, .int .i64 i] w fun e w' => e = .returned (.int .i64 r) ∧ w' = w := by
  have := skipString_any s i hs w
  rw [h.out] at this
  exact this

/-- SkipValue at a quote. -/
theorem skipValue_quote (s : ByteArray) (i : Nat) (hs : s.size ≤ 1099511627776) (h : i < s.size) (hx : by8 s i = 34) (w : World) :
    Calls Try.prog 12 #[.string s, .int .i64 i] w fun e w' => e = .returned (.int .i64 (Pl.skipStr s.data.toList i)) ∧ w' = w := by
  have e34 : ((s[i].toNat : Int) == 34) = true := by rw [by8_eq s i h, hx]; rfl
  clear hx
  go_enter Try.func12, Try.ntmps12
  go_wp2_with (go_at_call 8; refine (skipString_any _ _ hs _).mono ?_; rintro e w' ⟨rfl, rfl⟩)
  go_ret
  exact ⟨rfl, rfl⟩

theorem tst (s : ByteArray) (i : Nat) (h : i < s.size) (c : UInt8) (hx : by8 s i = c) (n : Int) : ((s[i].toNat : Int) == n) = ((c.toNat : Int) == n) := by
  rw [by8_eq s i h, hx]
theorem tstn (s : ByteArray) (i : Nat) (h : i < s.size) (c : UInt8) (hx : by8 s i ≠ c) (n : Int) (hn : (c.toNat : Int) = n) : ((s[i].toNat : Int) == n) = false := by
  rw [by8_eq s i h, beq_eq_false_iff_ne, ← hn]
  intro e
  exact hx (UInt8.toNat_inj.1 (by omega))

/-- SkipValue at a comma or a closing bracket. -/
theorem skipValue_stop (s : ByteArray) (i : Nat) (h : i < s.size) (hx : by8 s i = 44 ∨ by8 s i = 93) (w : World) :
    Calls Try.prog 12 #[.string s, .int .i64 i] w fun e w' => e = .returned (.int .i64 (-1)) ∧ w' = w := by
  rcases hx with hx | hx
  · have t := tst s i h 44 hx
    have e34 : ((s[i].toNat : Int) == 34) = false := t 34
    have e123 : ((s[i].toNat : Int) == 123) = false := t 123
    have e91 : ((s[i].toNat : Int) == 91) = false := t 91
    have e44 : ((s[i].toNat : Int) == 44) = true := t 44
    clear hx t
    go_enter Try.func12, Try.ntmps12
    go_wp2
    go_ret
    exact ⟨rfl, rfl⟩
  · have t := tst s i h 93 hx
    have e34 : ((s[i].toNat : Int) == 34) = false := t 34
    have e123 : ((s[i].toNat : Int) == 123) = false := t 123
    have e91 : ((s[i].toNat : Int) == 91) = false := t 91
    have e44 : ((s[i].toNat : Int) == 44) = false := t 44
    have e58 : ((s[i].toNat : Int) == 58) = false := t 58
    have e125 : ((s[i].toNat : Int) == 125) = false := t 125
    have e93 : ((s[i].toNat : Int) == 93) = true := t 93
    clear hx t
    go_enter Try.func12, Try.ntmps12
    go_wp2
    go_ret
    exact ⟨rfl, rfl⟩

/-- One step of the bracket loop: what it leaves. -/
theorem vstep {s : ByteArray} {j : Nat} {d r : Int} (hlt : j < s.size) (hv : ∃ f, s.size < f + j ∧ Pl.valGo f s.data.toList j d = r) {n : Nat} {d' : Int} (hn : j < n)
    (he : ∀ f, Pl.valGo (f + 1) s.data.toList j d = Pl.valGo f s.data.toList n d') : ∃ f, s.size < f + n ∧ Pl.valGo f s.data.toList n d' = r := by
  obtain ⟨f, h1, h2⟩ := hv
  obtain ⟨g, rfl⟩ : ∃ g, f = g + 1 := ⟨f - 1, by omega⟩
  rw [he] at h2
  exact ⟨g, by omega, h2⟩
theorem vend {s : ByteArray} {j : Nat} {d r : Int} (hlt : j < s.size) (hv : ∃ f, s.size < f + j ∧ Pl.valGo f s.data.toList j d = r) {x : Int}
    (he : ∀ f, Pl.valGo (f + 1) s.data.toList j d = x) : x = r := by
  obtain ⟨f, h1, h2⟩ := hv
  obtain ⟨g, rfl⟩ : ∃ g, f = g + 1 := ⟨f - 1, by omega⟩
  rw [he] at h2
  exact h2

set_option maxHeartbeats 1000000 in
/-- SkipValue at an opening square bracket. -/
theorem skipValue_arr (s : ByteArray) (i : Nat) (hs : s.size ≤ 1099511627776) (h : i < s.size) (hx : by8 s i = 91) (r : Int) (hr : Hid (∃ f, s.size < f + i ∧ Pl.valGo f s.data.toList i 0 = r)) (w : World) :
    Calls Try.prog 12 #[.string s, .int .i64 i] w fun e w' => e = .returned (.int .i64 r) ∧ w' = w := by
  have t := tst s i h 91 hx
  have e34 : ((s[i].toNat : Int) == 34) = false := t 34
  have e123 : ((s[i].toNat : Int) == 123) = false := t 123
  have e91 : ((s[i].toNat : Int) == 91) = true := t 91
  have h11 : decide (s.size ≤ i) = false := decide_eq_false (by omega)
  clear hx t
  go_enter Try.func12, Try.ntmps12
  go_wp2
  go_loop [5, 6] (fun t5 t6 => ∃ (j : Nat) (d : Int), j ≤ s.size ∧ -(j : Int) ≤ d ∧ d ≤ j ∧ t5 = .int .i64 d ∧ t6 = .int .i64 j ∧ Hid (∃ f, s.size < f + j ∧ Pl.valGo f s.data.toList j d = r)) (fun _ t6 => s.size - (intOf t6).toNat)
  case atStart => exact ⟨i, 0, by omega, by omega, by omega, rfl, rfl, hr⟩
  case round =>
    clear hr e34 e123 e91
    obtain ⟨j, d, hj, hd1, hd2, rfl, rfl, hv⟩ := hrel
    by_cases hlt : j < s.size
    · have hjl : j < s.data.toList.length := by rw [size_list]; exact hlt
      have hj8 := by8_list s j hjl
      by_cases c34 : by8 s j = 34
      · have e34 : ((s[j].toNat : Int) == 34) = true := tst s j hlt 34 c34 34
        have hq := fun f => Pl.valGo_quote f s.data.toList j d hjl (by rw [hj8]; exact c34)
        rcases Pl.skipStr_bd s.data.toList j hjl with hn | ⟨hb1, hb2⟩
        · have hsk : Hid (Pl.skipStr s.data.toList j = -1) := hn
          have F : Hid (-1 = r) := vend hlt hv.out fun f => by rw [hq, hn, if_pos (by decide)]
          clear hn hq hv hj8 c34
          go_wp2_with (go_at_call 8; refine (skipString_r _ _ hs _ hsk _).mono ?_; rintro e w' ⟨rfl, rfl⟩)
          go_ret
          exact ⟨ret_i64 F.out, rfl⟩
        · obtain ⟨n, hn⟩ : ∃ n : Nat, Pl.skipStr s.data.toList j = n := ⟨(Pl.skipStr s.data.toList j).toNat, by omega⟩
          have hsk : Hid (Pl.skipStr s.data.toList j = n) := hn
          have hb3 : j + 2 ≤ n := by rw [hn] at hb1; omega
          have hb4 : n ≤ s.size := by rw [hn, size_list] at hb2; omega
          have F : Hid (∃ f, s.size < f + n ∧ Pl.valGo f s.data.toList n d = r) := vstep hlt hv.out (by omega) fun f => by rw [hq, hn, if_neg (by omega), Int.toNat_natCast]
          clear hn hq hv hj8 c34 hb1 hb2
          go_wp2_with (go_at_call 8; refine (skipString_r _ _ hs _ hsk _).mono ?_; rintro e w' ⟨rfl, rfl⟩)
          go_round
          case rel => first | exact ⟨n, d, by omega, by omega, by omega, rfl, rfl, F⟩ | (refine ⟨trivial, ?_⟩; (repeat apply Exists.intro); exact ⟨⟨n, d, by omega, by omega, by omega, rfl, rfl, F⟩, rfl⟩)
          case measure => simp [intOf]; omega
      · have e34 : ((s[j].toNat : Int) == 34) = false := tstn s j hlt 34 c34 34 rfl
        by_cases c91 : by8 s j = 123 ∨ by8 s j = 91
        · have F : Hid (∃ f, s.size < f + (j + 1) ∧ Pl.valGo f s.data.toList (j + 1) (d + 1) = r) := vstep hlt hv.out (by omega) fun f => Pl.valGo_open f _ j d hjl (by rw [hj8]; exact c91)
          rcases c91 with c | c
          · have e123 : ((s[j].toNat : Int) == 123) = true := tst s j hlt 123 c 123
            clear c hv hj8 c34
            go_wp2
            go_round
            case rel => exact ⟨j + 1, d + 1, by omega, by omega, by omega, rfl, by go_num, F⟩
            case measure => simp [intOf]; omega
          · have e123 : ((s[j].toNat : Int) == 123) = false := tst s j hlt 91 c 123
            have e91 : ((s[j].toNat : Int) == 91) = true := tst s j hlt 91 c 91
            clear c hv hj8 c34
            go_wp2
            go_round
            case rel => exact ⟨j + 1, d + 1, by omega, by omega, by omega, rfl, by go_num, F⟩
            case measure => simp [intOf]; omega
        · have n123 : by8 s j ≠ 123 := fun e => c91 (.inl e)
          have n91 : by8 s j ≠ 91 := fun e => c91 (.inr e)
          have e123 : ((s[j].toNat : Int) == 123) = false := tstn s j hlt 123 n123 123 rfl
          have e91 : ((s[j].toNat : Int) == 91) = false := tstn s j hlt 91 n91 91 rfl
          by_cases c93 : by8 s j = 125 ∨ by8 s j = 93
          · have hq := fun f => Pl.valGo_close f s.data.toList j d hjl (by rw [hj8]; exact c93)
            by_cases hd : d - 1 = 0
            · have hdb : (d - 1 == 0) = true := by rw [hd]; rfl
              have F : Hid ((j : Int) + 1 = r) := vend hlt hv.out fun f => by rw [hq, if_pos hd]
              clear hd
              rcases c93 with c | c
              · have e125 : ((s[j].toNat : Int) == 125) = true := tst s j hlt 125 c 125
                clear c hv hj8 c34 hq n123 n91 c91
                go_wp2
                go_ret
                exact ⟨ret_i64 F.out, rfl⟩
              · have e125 : ((s[j].toNat : Int) == 125) = false := tst s j hlt 93 c 125
                have e93 : ((s[j].toNat : Int) == 93) = true := tst s j hlt 93 c 93
                clear c hv hj8 c34 hq n123 n91 c91
                go_wp2
                go_ret
                exact ⟨ret_i64 F.out, rfl⟩
            · have hdb : (d - 1 == 0) = false := by rw [beq_eq_false_iff_ne]; exact hd
              have F : Hid (∃ f, s.size < f + (j + 1) ∧ Pl.valGo f s.data.toList (j + 1) (d - 1) = r) := vstep hlt hv.out (by omega) fun f => by rw [hq, if_neg hd]
              clear hd
              rcases c93 with c | c
              · have e125 : ((s[j].toNat : Int) == 125) = true := tst s j hlt 125 c 125
                clear c hv hj8 c34 hq n123 n91 c91
                go_wp2
                go_round
                case rel => exact ⟨j + 1, d - 1, by omega, by omega, by omega, rfl, by go_num, F⟩
                case measure => simp [intOf]; omega
              · have e125 : ((s[j].toNat : Int) == 125) = false := tst s j hlt 93 c 125
                have e93 : ((s[j].toNat : Int) == 93) = true := tst s j hlt 93 c 93
                clear c hv hj8 c34 hq n123 n91 c91
                go_wp2
                go_round
                case rel => exact ⟨j + 1, d - 1, by omega, by omega, by omega, rfl, by go_num, F⟩
                case measure => simp [intOf]; omega
          · have n125 : by8 s j ≠ 125 := fun e => c93 (.inl e)
            have n93 : by8 s j ≠ 93 := fun e => c93 (.inr e)
            have e125 : ((s[j].toNat : Int) == 125) = false := tstn s j hlt 125 n125 125 rfl
            have e93 : ((s[j].toNat : Int) == 93) = false := tstn s j hlt 93 n93 93 rfl
            have F : Hid (∃ f, s.size < f + (j + 1) ∧ Pl.valGo f s.data.toList (j + 1) d = r) := vstep hlt hv.out (by omega) fun f => Pl.valGo_else f _ j d hjl (by rw [hj8]; exact c34) (by rw [hj8]; exact c91) (by rw [hj8]; exact c93)
            clear hv hj8 c34 n123 n91 c91 n125 n93 c93
            go_wp2
            go_round
            case rel => exact ⟨j + 1, d, by omega, by omega, by omega, rfl, by go_num, F⟩
            case measure => simp [intOf]; omega
    · have F : Hid (-1 = r) := by
        obtain ⟨f, _, h2⟩ := hv.out
        rw [Pl.valGo_end _ _ _ _ (by rw [size_list]; omega)] at h2
        exact h2
      clear hv
      go_wp2
      go_ret
      exact ⟨ret_i64 F.out, rfl⟩

end Go.Proofs.Qxb6605428a
