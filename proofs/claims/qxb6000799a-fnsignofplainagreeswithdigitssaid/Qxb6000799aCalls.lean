/-
  Seat b6000799a: the contracts of the functions on both laws' roads.
-/
import Derived.Test.Qxb6000799aRows
import Derived.Test.Qxb6000799aPlain
import Derived.WalkKit
import Derived.ProofKit
import Derived.Handy
namespace Go.Proofs.Qxb6000799a
open Go.RowKit

/-- The text's bytes as numbers. -/
def bs (s : ByteArray) : List Nat := s.data.toList.map UInt8.toNat

theorem bs_length (s : ByteArray) : (bs s).length = s.size := by simp [bs]
theorem bs_take (s : ByteArray) (k : Nat) (h : k < s.size) : (bs s).take (k + 1) = (bs s).take k ++ [(s[k]).toNat] := by
  rw [List.take_succ_eq_append_getElem (by rw [bs_length]; exact h)]
  simp [bs]; rfl
theorem byte_lt (s : ByteArray) (k : Nat) (h : k < s.size) : (s[k]).toNat ≤ 255 := by
  have := (s[k]).toNat_lt; omega

theorem retb {a b : Bool} (h : a = b) : Ending.returned (.bool a) = .returned (.bool b) := by rw [h]

/-- zzIsDigit. -/
theorem isDigit_any (n : Nat) (w : World) :
    Calls Try.prog 15 #[.int .u8 (n : Int)] w fun e w' => e = .returned (.bool (Pl.isDig n)) ∧ w = w' := by
  by_cases h1 : 48 ≤ n
  · go_enter Try.func15, Try.ntmps15
    go_wp2
    go_ret
    exact ⟨retb (by simp [Pl.isDig, h1]; omega), rfl⟩
  · go_enter Try.func15, Try.ntmps15
    go_wp2
    go_ret
    exact ⟨retb (by simp [Pl.isDig, h1]), rfl⟩

theorem dig_snoc (s : ByteArray) (a k : Nat) (hak : a ≤ k) (h : k < s.size) (h1 : Pl.allDig (((bs s).take k).drop a) = true) (h2 : (!Pl.isDig (s[k]).toNat) = false) : Pl.allDig (((bs s).take (k + 1)).drop a) = true := by
  rw [bs_take s k h, List.drop_append_of_le_length (by rw [List.length_take, bs_length]; omega), Pl.allDig_snoc, h1]
  simpa using h2
theorem dig_not (s : ByteArray) (a b k : Nat) (hak : a ≤ k) (hkb : k < b) (h : k < s.size) (h2 : (!Pl.isDig (s[k]).toNat) = true) : false = Pl.allDig (((bs s).take b).drop a) := by
  symm
  unfold Pl.allDig
  rw [List.all_eq_false]
  refine ⟨(s[k]).toNat, ?_, by simpa using h2⟩
  rw [List.mem_iff_getElem]
  refine ⟨k - a, by simp [bs_length]; omega, ?_⟩
  simp [bs, show a + (k - a) = k by omega]
  rfl

/-- zzAllDigits over s[a:b]. -/
theorem allDigits_any (s : ByteArray) (a b : Nat) (w : World) (hab : a ≤ b) (hb : b ≤ s.size) (hs : s.size ≤ 1048576) :
    Calls Try.prog 10 #[.string s, .int .i64 (a : Int), .int .i64 (b : Int)] w fun e w' => e = .returned (.bool (Pl.allDig (((bs s).take b).drop a))) ∧ w = w' := by
  go_enter Try.func10, Try.ntmps10
  go_wp2
  go_loop [7] (fun i => ∃ k : Nat, a ≤ k ∧ k ≤ b ∧ i = .int .i64 k ∧ Pl.allDig (((bs s).take k).drop a) = true) (fun i => b - (intOf i).toNat)
  case atStart => exact ⟨a, Nat.le_refl _, hab, rfl, by simp [Pl.allDig]⟩
  case round =>
    obtain ⟨k, hak, hkb, rfl, hall⟩ := hrel
    have HA : Hid _ := hall
    clear hall
    by_cases hlt : k < b
    · have hks : k < s.size := by omega
      go_wp2_with (go_at_call 15; refine (isDigit_any _ _).mono ?_; rintro e w' ⟨rfl, rfl⟩)
      · go_ret
        exact ⟨retb (dig_not s a b k hak hlt hks (by assumption)), rfl⟩
      · go_round
        case rel => exact ⟨k + 1, by omega, by omega, by go_num, dig_snoc s a k hak hks HA.out (by assumption)⟩
        case measure => simp [intOf]; omega
    · go_wp2
      go_ret
      obtain rfl : k = b := by omega
      exact ⟨retb HA.out.symm, rfl⟩

/-! What each way of plain's round does -/
theorem pl_next {s : ByteArray} {k : Nat} {st : Pl.St} (hlt : k < s.size) (h : Pl.go Pl.init ((bs s).take k) = some st) : Pl.go Pl.init ((bs s).take (k + 1)) = Pl.step st (s[k]).toNat := by
  rw [bs_take s k hlt]; exact Pl.go_snoc _ _ _ _ h
theorem pl_digit {s : ByteArray} {k : Nat} {coef : Int} {digits run : Nat} {point : Bool} (hlt : k < s.size) (h : Pl.go Pl.init ((bs s).take k) = some ⟨coef, digits, run, point⟩) (h1 : 48 ≤ (s[k]).toNat) (h2 : (s[k]).toNat ≤ 57) (h3 : digits < 18) :
    Pl.go Pl.init ((bs s).take (k + 1)) = some ⟨coef * 10 + (((s[k]).toNat : Int) - 48), digits + 1, run + 1, point⟩ := by
  rw [pl_next hlt h, Pl.step, if_pos ⟨h1, h2⟩, if_pos (by simp; omega)]
theorem pl_past {s : ByteArray} {k : Nat} {coef : Int} {digits run : Nat} {point : Bool} (hlt : k < s.size) (h : Pl.go Pl.init ((bs s).take k) = some ⟨coef, digits, run, point⟩) (h1 : 48 ≤ (s[k]).toNat) (h2 : (s[k]).toNat ≤ 57) (h3 : ¬ digits < 18) :
    Pl.go Pl.init ((bs s).take (k + 1)) = some ⟨coef, digits + 1, run + 1, point⟩ := by
  rw [pl_next hlt h, Pl.step, if_pos ⟨h1, h2⟩, if_neg (by simp; omega)]
theorem pl_point {s : ByteArray} {k : Nat} {coef : Int} {digits run : Nat} {point : Bool} (hlt : k < s.size) (h : Pl.go Pl.init ((bs s).take k) = some ⟨coef, digits, run, point⟩) (h1 : ((s[k]).toNat : Int) = 46) (h2 : ¬ point = true) (h3 : 0 < run) :
    Pl.go Pl.init ((bs s).take (k + 1)) = some ⟨coef, digits, 0, true⟩ := by
  rw [pl_next hlt h, Pl.step, if_neg (by omega), if_pos ⟨by omega, by simpa using h2, h3⟩]
theorem pl_none {s : ByteArray} {k : Nat} {st : Pl.St} (hlt : k < s.size) (h : Pl.go Pl.init ((bs s).take k) = some st) (h1 : ¬ (48 ≤ (s[k]).toNat ∧ (s[k]).toNat ≤ 57)) (h2 : ¬ ((s[k]).toNat = 46 ∧ st.point = false ∧ 0 < st.run)) :
    Pl.go Pl.init (bs s) = none := by
  have h3 : Pl.go Pl.init ((bs s).take (k + 1)) = none := by rw [pl_next hlt h, Pl.step, if_neg h1, if_neg h2]
  rw [← List.take_append_drop (k + 1) (bs s), Pl.go_append, h3]
theorem ret_none {s : ByteArray} (h : Pl.go Pl.init (bs s) = none) : Ending.returned (.tuple #[.int .i64 0, .int .i64 0, .int .i32 0, .bool false]) = .returned (.tuple #[.int .i64 (Pl.coefR (bs s)), .int .i64 (Pl.digitsR (bs s)), .int .i32 (Pl.decR (bs s)), .bool (Pl.okR (bs s))]) := by
  simp [Pl.coefR, Pl.digitsR, Pl.decR, Pl.okR, h]
theorem ret_some {s : ByteArray} {coef : Int} {digits run : Nat} {point : Bool} {d : Int} {o : Bool} (h : Pl.go Pl.init (bs s) = some ⟨coef, digits, run, point⟩) (hd : d = if point then (run : Int) else 0) (ho : o = decide (0 < run)) :
    Ending.returned (.tuple #[.int .i64 coef, .int .i64 digits, .int .i32 d, .bool o]) = .returned (.tuple #[.int .i64 (Pl.coefR (bs s)), .int .i64 (Pl.digitsR (bs s)), .int .i32 (Pl.decR (bs s)), .bool (Pl.okR (bs s))]) := by
  subst hd ho
  cases point <;> simp [Pl.coefR, Pl.digitsR, Pl.decR, Pl.okR, h]

/-- dec.plain. -/
theorem plain_any (s : ByteArray) (w : World) (hs : s.size ≤ 1048576) :
    Calls Try.prog 16 #[.string s] w fun e w' => e = .returned (.tuple #[.int .i64 (Pl.coefR (bs s)), .int .i64 (Pl.digitsR (bs s)), .int .i32 (Pl.decR (bs s)), .bool (Pl.okR (bs s))]) ∧ w = w' := by
  go_enter Try.func16, Try.ntmps16
  go_wp2
  go_loop [2, 3, 4, 6, 7, 8] (fun tc td t4 tr tp ti => ∃ (k : Nat) (st : Pl.St), k ≤ s.size ∧ ti = .int .i64 k ∧ Pl.go Pl.init ((bs s).take k) = some st ∧ tc = .int .i64 st.coef ∧ td = .int .i64 st.digits ∧ tr = .int .i64 st.run ∧ tp = .bool st.point ∧ t4 = .int .i32 0) (fun _ _ _ _ _ ti => s.size - (intOf ti).toNat)
  case atStart => exact ⟨0, Pl.init, Nat.zero_le _, rfl, rfl, rfl, rfl, rfl, rfl, rfl⟩
  case round =>
    obtain ⟨k, st, hk, rfl, hgo, rfl, rfl, rfl, rfl, rfl⟩ := hrel
    have HG : Hid _ := hgo
    clear hgo
    obtain ⟨coef, digits, run, point⟩ := st
    have hg := Pl.good_go Pl.good_init HG.out
    have hdn : digits ≤ s.size := by have := hg.dig; rw [List.length_take, bs_length] at this; simp at this; omega
    have hrn : run ≤ s.size := by have := hg.run; rw [List.length_take, bs_length] at this; simp at this; omega
    by_cases hlt : k < s.size
    · have hb := byte_lt s k hlt
      by_cases h1 : 48 ≤ (s[k]).toNat
      · by_cases h2 : (s[k]).toNat ≤ 57
        · by_cases h3 : digits < 18
          · have hr1 : 0 ≤ coef := (Pl.good_room hg h3).1
            have hr2 : coef ≤ 99999999999999999 := (Pl.good_room hg h3).2
            clear hg
            go_wp2
            go_round
            case rel => exact ⟨k + 1, _, by omega, by go_num, pl_digit hlt HG.out h1 h2 h3, rfl, by go_num, by go_num, rfl, rfl⟩
            case measure => simp [intOf]; omega
          · clear hg
            go_wp2
            go_round
            case rel => exact ⟨k + 1, _, by omega, by go_num, pl_past hlt HG.out h1 h2 h3, rfl, by go_num, by go_num, rfl, rfl⟩
            case measure => simp [intOf]; omega
        · clear hg
          go_wp2
          go_returns
          exact ⟨ret_none (pl_none hlt HG.out (by omega) (by omega)), rfl⟩
      · clear hg
        go_wp2
        · go_returns
          have hp : point = true := by assumption
          exact ⟨ret_none (pl_none hlt HG.out (by omega) (by simp [hp])), rfl⟩
        · go_round
          case rel => exact ⟨k + 1, _, by omega, by go_num, pl_point hlt HG.out (by assumption) (by assumption) (by assumption), rfl, rfl, rfl, rfl, rfl⟩
          case measure => simp [intOf]; omega
        · go_returns
          have hp : ¬ 0 < run := by assumption
          exact ⟨ret_none (pl_none hlt HG.out (by omega) (by simp [hp])), rfl⟩
        · go_returns
          exact ⟨ret_none (pl_none hlt HG.out (by omega) (by simp; omega)), rfl⟩
    · clear hg
      have hks : k = s.size := by omega
      have HF : Hid (Pl.go Pl.init (bs s) = some ⟨coef, digits, run, point⟩) := by
        have := HG.out
        rwa [hks, List.take_of_length_le (by rw [bs_length]; omega)] at this
      clear hks
      go_wp2
      · go_returns
        have hp : point = true := by assumption
        exact ⟨ret_some HF.out (by simp [hp]) (by simp), rfl⟩
      · go_returns
        have hp : point = false := by assumption
        exact ⟨ret_some HF.out (by simp [hp]) (by simp), rfl⟩

/-- dec.ZZplain. -/
theorem zzplain_any (s : ByteArray) (w : World) (hs : s.size ≤ 1048576) :
    Calls Try.prog 9 #[.string s] w fun e w' => e = .returned (.tuple #[.int .i64 (Pl.coefR (bs s)), .int .i64 (Pl.digitsR (bs s)), .int .i32 (Pl.decR (bs s)), .bool (Pl.okR (bs s))]) ∧ w = w' := by
  go_enter Try.func9, Try.ntmps9
  go_wp2_with (go_at_call 16; refine (plain_any _ _ hs).mono ?_; rintro e w' ⟨rfl, rfl⟩)
  go_returns
  exact ⟨rfl, rfl⟩

/-- What 'plain' gives back, under names. -/
theorem zzplain_is (s : ByteArray) (w : World) (hs : s.size ≤ 1048576) (C : Int) (D E : Nat) (O : Bool) (h : Hid (Pl.coefR (bs s) = C ∧ Pl.digitsR (bs s) = D ∧ Pl.decR (bs s) = E ∧ Pl.okR (bs s) = O)) :
    Calls Try.prog 9 #[.string s] w fun e w' => e = .returned (.tuple #[.int .i64 C, .int .i64 (D : Int), .int .i32 (E : Int), .bool O]) ∧ w = w' := by
  obtain ⟨rfl, rfl, rfl, rfl⟩ := h
  exact zzplain_any s w hs

theorem allDigits_is (s : ByteArray) (a b : Nat) (A : Bool) (w : World) (hab : a ≤ b) (hb : b ≤ s.size) (hs : s.size ≤ 1048576) (h : Hid (Pl.allDig (((bs s).take b).drop a) = A)) (x y : Int) (hx : x = (a : Int)) (hy : y = (b : Int)) :
    Calls Try.prog 10 #[.string s, .int .i64 x, .int .i64 y] w fun e w' => e = .returned (.bool A) ∧ w = w' := by
  obtain rfl := h.out
  subst hx hy
  exact allDigits_any s a b w hab hb hs

end Go.Proofs.Qxb6000799a
