/-
  Seat b6000799a: the proof of 'Rows.FnSignOfPlainAgreesWithDigitsSaid'. The frame is the guide's shell; the walk and the plain law are ours.
-/
import Derived.Test.Qxb6000799aRows
import Derived.Test.Qxb6000799aCalls
import Derived.Handy
import Derived.WalkKit
import Derived.ProofKit
import Derived.OpenShut
import Derived.ShutString
namespace Go.Proofs.Qxb6000799a.fnSignOfPlainAgreesWithDigits
open Go.ChangeShapes Go.WideShapes Go.ChangeAt Go.RowKit
open Go.ChangeMaps (open_string shut_string)
set_option linter.unusedVariables false      -- a walk need not use every 'w<i>' (that an integer argument fits its kind)

theorem own : ownKnob Try.prog.godebug = none := by kernel_rfl

/-! ### STEP 1: THE WALK: the Go text returns true. 'Grown w w'': the world has at most new blocks (Derived/RowKit3.lean). Part the cases AHEAD of 'go_enter' where a test parts the walk; take each callee by a contract of your own. -/
/-- ZZsign at nought. -/
theorem sign_zero (n : Bool) (w : World) : Calls Try.prog 13 #[.int .u64 0, .bool n] w fun e w' => e = .returned (.int .i64 0) ∧ w = w' := by
  go_enter Try.func13, Try.ntmps13
  go_wp2
  go_ret
  exact ⟨rfl, rfl⟩
/-- ZZsign above nought. -/
theorem sign_neg (m : Int) (hm : 0 < m) (w : World) : Calls Try.prog 13 #[.int .u64 m, .bool true] w fun e w' => e = .returned (.int .i64 (-1)) ∧ w = w' := by
  go_enter Try.func13, Try.ntmps13
  go_wp2
  go_ret
  exact ⟨rfl, rfl⟩
theorem sign_pos (m : Int) (hm : 0 < m) (w : World) : Calls Try.prog 13 #[.int .u64 m, .bool false] w fun e w' => e = .returned (.int .i64 1) ∧ w = w' := by
  go_enter Try.func13, Try.ntmps13
  go_wp2
  go_ret
  exact ⟨rfl, rfl⟩

theorem valb {a b : Bool} (h : a = b) : Value.bool a = .bool b := by rw [h]
theorem zero_not (s : ByteArray) (k : Nat) (hlt : k < s.size) (h1 : Pl.isDig (s[k]).toNat = true) (h2 : (((s[k]).toNat : Int) != 48) = true) : false = Pl.allZero ((bs s).take (k + 1)) := by
  have h3 : ¬ (s[k]).toNat = 48 := by simp at h2; omega
  rw [bs_take s k hlt, Pl.allZero_snoc, h1]; simp [h3]
theorem zero_nought (s : ByteArray) (k : Nat) (hlt : k < s.size) (h2 : (((s[k]).toNat : Int) != 48) = false) : Pl.allZero ((bs s).take k) = Pl.allZero ((bs s).take (k + 1)) := by
  have h3 : (s[k]).toNat = 48 := by simp at h2; omega
  rw [bs_take s k hlt, Pl.allZero_snoc, h3]; simp
theorem zero_other (s : ByteArray) (k : Nat) (hlt : k < s.size) (h1 : ¬ Pl.isDig (s[k]).toNat = true) : Pl.allZero ((bs s).take k) = Pl.allZero ((bs s).take (k + 1)) := by
  have h3 : Pl.isDig (s[k]).toNat = false := by simpa using h1
  rw [bs_take s k hlt, Pl.allZero_snoc, h3]; simp
theorem law_is (s : ByteArray) (C : Int) (D E : Nat) (O : Bool) (h : Hid (Pl.coefR (bs s) = C ∧ Pl.digitsR (bs s) = D ∧ Pl.decR (bs s) = E ∧ Pl.okR (bs s) = O)) (hO : O = true) (hD : D ≤ 18) : decide (C = 0) = Pl.allZero ((bs s).take s.size) := by
  obtain ⟨rfl, rfl, rfl, rfl⟩ := h
  rw [List.take_of_length_le (by rw [bs_length]; exact Nat.le_refl _)]
  exact Pl.law_sign (bs s) hO hD
theorem bound_is (s : ByteArray) (C : Int) (h : Hid (Pl.coefR (bs s) = C)) : 0 ≤ C ∧ C ≤ 999999999999999999 := by
  obtain rfl := h.out
  unfold Pl.coefR
  cases e : Pl.go Pl.init (bs s) with
  | none => simp
  | some st => exact Pl.good_all (Pl.good_go Pl.good_init e)

set_option maxHeartbeats 400000 in
theorem walk (a0 : ByteArray) (a1 : Bool) (w0 : a0.size ≤ maxLen) (w : World) :
    Calls Try.prog 7 #[.string a0, .bool a1] w fun e w' => e = .returned (.bool true) ∧ Grown w w' := by
  unfold maxLen at w0
  by_cases hs : a0.size ≤ 1048576
  · obtain ⟨C, D, E, O, hL⟩ : ∃ C D E O, Hid (Pl.coefR (bs a0) = C ∧ Pl.digitsR (bs a0) = D ∧ Pl.decR (bs a0) = E ∧ Pl.okR (bs a0) = O) := ⟨_, _, _, _, rfl, rfl, rfl, rfl⟩
    have hC0 : 0 ≤ C := (bound_is a0 C hL.1).1
    have hC1 : C ≤ 999999999999999999 := (bound_is a0 C hL.1).2
    cases O
    · go_enter Try.func7, Try.ntmps7
      go_wp2_with (first | (go_at_call 9; refine (zzplain_is _ _ hs C D E false hL).mono ?_; rintro e w' ⟨rfl, rfl⟩) | go_in)
      go_ret
      exact ⟨rfl, Grown.refl _⟩
    · by_cases hD : D ≤ 18
      · have HW : Hid _ := law_is a0 C D E true hL rfl hD
        go_enter Try.func7, Try.ntmps7
        go_wp2_with (first | (go_at_call 9; refine (zzplain_is _ _ hs C D E true hL).mono ?_; rintro e w' ⟨rfl, rfl⟩) | go_in)
        go_loop [9, 10] (fun tz ti => ∃ k : Nat, k ≤ a0.size ∧ ti = .int .i64 k ∧ tz = .bool (Pl.allZero ((bs a0).take k))) (fun _ ti => a0.size - (intOf ti).toNat)
        case atStart => exact ⟨0, Nat.zero_le _, rfl, rfl⟩
        case round =>
          obtain ⟨k, hk, rfl, rfl⟩ := hrel
          by_cases hlt : k < a0.size
          · go_wp2_with (go_at_call 15; refine (isDigit_any _ _).mono ?_; rintro e w' ⟨rfl, rfl⟩)
            · go_round
              case rel => exact ⟨k + 1, by omega, by go_num, valb (zero_not a0 k hlt (by assumption) (by assumption))⟩
              case measure => simp [intOf]; omega
            · go_round
              case rel => exact ⟨k + 1, by omega, by go_num, valb (zero_nought a0 k hlt (by assumption))⟩
              case measure => simp [intOf]; omega
            · go_round
              case rel => exact ⟨k + 1, by omega, by go_num, valb (zero_other a0 k hlt (by assumption))⟩
              case measure => simp [intOf]; omega
          · obtain rfl : k = a0.size := by omega
            by_cases hz : C = 0
            · have hA : Pl.allZero ((bs a0).take a0.size) = true := by rw [← HW.out]; simp [hz]
              subst hz
              rw [hA]
              clear hA
              go_wp2_with (go_at_call 13; refine (sign_zero _ _).mono ?_; rintro e w' ⟨rfl, rfl⟩)
              go_ret
              exact ⟨rfl, Grown.refl _⟩
            · have hA : Pl.allZero ((bs a0).take a0.size) = false := by rw [← HW.out]; simp [hz]
              have hpos : 0 < C := by omega
              rw [hA]
              clear hA hz
              cases a1
              · go_wp2_with (go_at_call 13; refine (sign_pos _ hpos _).mono ?_; rintro e w' ⟨rfl, rfl⟩)
                go_ret
                exact ⟨rfl, Grown.refl _⟩
              · go_wp2_with (go_at_call 13; refine (sign_neg _ hpos _).mono ?_; rintro e w' ⟨rfl, rfl⟩)
                go_ret
                exact ⟨rfl, Grown.refl _⟩
      · go_enter Try.func7, Try.ntmps7
        go_wp2_with (first | (go_at_call 9; refine (zzplain_is _ _ hs C D E true hL).mono ?_; rintro e w' ⟨rfl, rfl⟩) | go_in)
        go_ret
        exact ⟨rfl, Grown.refl _⟩
  · go_enter Try.func7, Try.ntmps7
    go_wp2
    go_ret
    exact ⟨rfl, Grown.refl _⟩

/-! ### THE ROW's STEP: WRITTEN OUT: LEAVE IT -/
set_option maxRecDepth 100000 in
theorem lifted (os : Os) (started : os.Started) (H : Type) (enc : TypeId × Value → H) :
    ReturnsInHanded {} Try.checked os 7 .any (Rows.fnSignOfPlainAgreesWithDigitsSpec.pre6 enc Try.prog Try.f7 Rows.fnSignOfPlainAgreesWithDigitsRow.domain false) (Rows.fnSignOfPlainAgreesWithDigitsSpec.post enc Try.prog Try.f7 false true false false) := by
  refine returnsInHanded_of_change (C := Try.checked) own started (by kernel_rfl) Try.func7
    (ChangeSpec.witness6 (enc := enc) (C := Try.checked) false ⟨#[], #[.string ByteArray.empty, .bool false], []⟩ 8 (by kernel_rfl) (by kernel_rfl) (by kernel_rfl) (by kernel_rfl)) ?_
  intro W base args ds gs before hval0 hW hcnd _
  have hval : ∀ (j : Nat) t v, Try.f7.params[j]? = some t → args[j]? = some v → Value.okWide Try.prog W .any base t v := hval0
  have hW' := hW
  obtain ⟨p, q, hA0, hV, rfl, hfz, hnd⟩ := hW
  have hA : DataW.TrodAll enc Try.prog W 0 (fun _ => true) true Try.f7.params.toList args.toList ds p := hA0
  rw [Try.params7] at hA hval
  obtain ⟨v0, vs0, d0, ds0, p0, q0, hargs, rfl, rfl, h0, r0⟩ := trodAll_cons hA
  obtain ⟨v1, vs1, d1, ds1, p1, q1, rfl, rfl, rfl, h1, r1⟩ := trodAll_cons r0
  obtain ⟨rfl, rfl, rfl⟩ := trodAll_nil r1
  obtain rfl : args = #[v0, v1] := by cases args; simp_all
  obtain ⟨rfl, rfl⟩ := trodVars_none hV
  obtain ⟨a0, rfl, rfl, rfl, w0⟩ := open_string Try.underlying9 (hval 0 9 v0 rfl rfl) h0
  obtain ⟨a1, rfl, rfl, rfl⟩ := open_bool Try.underlying4 (hval 1 4 v1 rfl rfl) h1
  clear hA0 hval0
  simp only [List.append_nil] at hW'
  refine (walk a0 a1 w0 W).mono fun e W' ⟨he, hg⟩ => ?_
  subst he
  exact ⟨_, rfl, post_of_same (pa := []) (pv := []) hW' (fun _ _ _ => (trodAll_cons_mk (shut_bool Try.underlying4 _) trodAll_mk0)) (fun sp _ => (trodAll_cons_mk (shut_string Try.underlying9 w0) (trodAll_cons_mk (shut_bool Try.underlying4 _) trodAll_mk0))) (fun _ _ => rfl) rfl
    (hg.frame _) hg.2.1 (ok_one (by kernel_rfl) rfl (okWide_bool_mk Try.underlying4 _))⟩

theorem over : Rows.fnSignOfPlainAgreesWithDigitsRow.holds Try.pinned (OpenSpec.ofChange Rows.fnSignOfPlainAgreesWithDigitsSpec) :=
  OpenClaim.holds_of_wide 7 Try.f7 rfl rfl rfl rfl rfl rfl rfl ⟨rfl, rfl, rfl, rfl, rfl⟩ rfl rfl rfl rfl rfl (by kernel_rfl) Try.func7 (by kernel_rfl)
    (of_decide_eq_true (by kernel_rfl)) (by unfold Func.isWrapper; first | (rw [if_pos (by decide +kernel)]; kernel_rfl) | (rw [if_neg (by decide +kernel)]; exact ⟨rfl, rfl⟩))
    (fun os started H enc _ => lifted os started H enc)

/-- ████ THE STATEMENT ████ -/
theorem proved : Rows.FnSignOfPlainAgreesWithDigitsSaid :=
  over
#print axioms proved
end Go.Proofs.Qxb6000799a.fnSignOfPlainAgreesWithDigits
