/-
  Seat b6000799a: the proof of 'Rows.FnPlainAcceptsExactlyTheGrammarSaid'. The frame is the guide's shell; the walk and the plain law are ours.
-/
import Derived.Test.Qxb6000799aRows
import Derived.Test.Qxb6000799aCalls
import Derived.Handy
import Derived.WalkKit
import Derived.ProofKit
import Derived.OpenShut
import Derived.ShutString
namespace Go.Proofs.Qxb6000799a.fnPlainAcceptsExactlyTheGrammar
open Go.ChangeShapes Go.WideShapes Go.ChangeAt Go.RowKit
open Go.ChangeMaps (open_string shut_string)
set_option linter.unusedVariables false      -- a walk need not use every 'w<i>' (that an integer argument fits its kind)

theorem own : ownKnob Try.prog.godebug = none := by kernel_rfl

/-! ### STEP 1: THE WALK: the Go text returns true. 'Grown w w'': the world has at most new blocks (Derived/RowKit3.lean). Part the cases AHEAD of 'go_enter' where a test parts the walk; take each callee by a contract of your own. -/
/-! The plain law in the walk's words -/
theorem no46 (s : ByteArray) (k : Nat) (hlt : k < s.size) (h : ∀ c ∈ (bs s).take k, c ≠ 46) (h2 : ¬ ((s[k]).toNat : Int) = 46) : ∀ c ∈ (bs s).take (k + 1), c ≠ 46 := by
  intro c hc
  rw [bs_take s k hlt, List.mem_append] at hc
  rcases hc with hc | hc
  · exact h c hc
  · simp only [List.mem_singleton] at hc
    subst hc
    omega
theorem parted (s : ByteArray) (k : Nat) (hlt : k < s.size) (h2 : ((s[k]).toNat : Int) = 46) : bs s = (bs s).take k ++ 46 :: (bs s).drop (k + 1) := by
  have h3 : (s[k]).toNat = 46 := by omega
  have h4 := bs_take s k hlt
  rw [h3] at h4
  conv => lhs; rw [← List.take_append_drop (k + 1) (bs s), h4]
  simp
theorem law_whole (s : ByteArray) (C : Int) (D E : Nat) (O A : Bool) (h : Hid (Pl.coefR (bs s) = C ∧ Pl.digitsR (bs s) = D ∧ Pl.decR (bs s) = E ∧ Pl.okR (bs s) = O)) (hA : Hid (Pl.allDig (((bs s).take s.size).drop 0) = A))
    (h46 : ∀ c ∈ (bs s).take s.size, c ≠ 46) : O = (decide (0 < s.size) && A) ∧ (O = true → D = s.size ∧ E = 0) ∧ 0 ≤ C := by
  obtain ⟨rfl, rfl, rfl, rfl⟩ := h
  obtain rfl := hA.out
  rw [List.take_of_length_le (by rw [bs_length]; exact Nat.le_refl _)] at h46 ⊢
  have hl := Pl.law_nopoint (bs s) h46
  rw [bs_length] at hl
  exact ⟨hl.1, hl.2, Pl.coefR_nonneg _⟩
theorem law_parted (s : ByteArray) (k : Nat) (C : Int) (D E : Nat) (O A B : Bool) (hlt : k < s.size) (h : Hid (Pl.coefR (bs s) = C ∧ Pl.digitsR (bs s) = D ∧ Pl.decR (bs s) = E ∧ Pl.okR (bs s) = O))
    (hA : Hid (Pl.allDig (((bs s).take k).drop 0) = A)) (hB : Hid (Pl.allDig (((bs s).take s.size).drop (k + 1)) = B))
    (h46 : ∀ c ∈ (bs s).take k, c ≠ 46) (h2 : ((s[k]).toNat : Int) = 46) : O = (decide (0 < k) && (decide (k + 1 < s.size) && (A && B))) ∧ (O = true → D + 1 = s.size ∧ E + 1 + k = s.size) ∧ 0 ≤ C := by
  obtain ⟨rfl, rfl, rfl, rfl⟩ := h
  obtain rfl := hA.out
  obtain rfl := hB.out
  have e0 : (bs s).take s.size = bs s := List.take_of_length_le (by rw [bs_length]; exact Nat.le_refl _)
  rw [e0, List.drop_zero]
  have hl := Pl.law_point ((bs s).take k) ((bs s).drop (k + 1)) h46
  rw [← parted s k hlt h2] at hl
  have e1 : ((bs s).take k).length = k := by rw [List.length_take, bs_length]; omega
  have e2 : ((bs s).drop (k + 1)).length = s.size - (k + 1) := by rw [List.length_drop, bs_length]
  rw [e1, e2] at hl
  have e3 : decide (0 < s.size - (k + 1)) = decide (k + 1 < s.size) := by rw [Bool.eq_iff_iff]; simp; omega
  rw [e3] at hl
  refine ⟨hl.1, fun ho => ?_, Pl.coefR_nonneg _⟩
  have := hl.2 ho
  omega

set_option maxHeartbeats 400000 in
theorem walk (a0 : ByteArray) (w0 : a0.size ≤ maxLen) (w : World) :
    Calls Try.prog 3 #[.string a0] w fun e w' => e = .returned (.bool true) ∧ Grown w w' := by
  unfold maxLen at w0
  by_cases hs : a0.size ≤ 1048576
  · obtain ⟨C, D, E, O, hL⟩ : ∃ C D E O, Hid (Pl.coefR (bs a0) = C ∧ Pl.digitsR (bs a0) = D ∧ Pl.decR (bs a0) = E ∧ Pl.okR (bs a0) = O) := ⟨_, _, _, _, rfl, rfl, rfl, rfl⟩
    go_enter Try.func3, Try.ntmps3
    go_wp2_with (first | (go_at_call 9; refine (zzplain_is _ _ hs C D E O hL).mono ?_; rintro e w' ⟨rfl, rfl⟩) | go_in)
    go_loop [7, 8] (fun tp ti => ∃ k : Nat, k ≤ a0.size ∧ ti = .int .i64 k ∧ tp = .int .i64 (-1) ∧ ∀ c ∈ (bs a0).take k, c ≠ 46) (fun _ ti => a0.size - (intOf ti).toNat)
    case atStart => exact ⟨0, Nat.zero_le _, rfl, rfl, by simp⟩
    case round =>
      obtain ⟨k, hk, rfl, rfl, h46⟩ := hrel
      have H46 : Hid _ := h46
      clear h46
      by_cases hlt : k < a0.size
      · by_cases h2 : ((a0[k]).toNat : Int) = 46
        · obtain ⟨A, hA⟩ : ∃ A, Hid (Pl.allDig (((bs a0).take k).drop 0) = A) := ⟨_, rfl⟩
          obtain ⟨B, hB⟩ : ∃ B, Hid (Pl.allDig (((bs a0).take a0.size).drop (k + 1)) = B) := ⟨_, rfl⟩
          have HW : Hid _ := law_parted a0 k C D E O A B hlt hL hA hB H46.out h2
          have h2a : 46 ≤ (a0[k]).toNat := by omega
          have h2b : (a0[k]).toNat ≤ 46 := by omega
          clear h2
          by_cases hk0 : 0 < k
          · by_cases hk1 : k + 1 < a0.size
            · cases A
              · obtain rfl : O = false := by have := HW.out.1; simpa using this
                go_wp2_with (go_at_call 10; refine (allDigits_is a0 0 k false _ (Nat.zero_le _) hk hs hA _ _ rfl rfl).mono ?_; rintro e w' ⟨rfl, rfl⟩)
                go_ret
                exact ⟨rfl, Grown.refl _⟩
              · cases B
                · obtain rfl : O = false := by have := HW.out.1; simpa using this
                  go_wp2_with fail
                  refine (allDigits_is a0 0 k true _ (Nat.zero_le _) hk hs hA _ _ rfl rfl).mono ?_
                  rintro e w' ⟨rfl, rfl⟩
                  go_wp2_with fail
                  refine (allDigits_is a0 (k + 1) a0.size false _ hlt (Nat.le_refl _) hs hB _ _ (by omega) rfl).mono ?_
                  rintro e w' ⟨rfl, rfl⟩
                  go_wp2
                  go_ret
                  exact ⟨rfl, Grown.refl _⟩
                · obtain rfl : O = true := by have := HW.out.1; simpa [hk0, hk1] using this
                  have hD : D + 1 = a0.size := (HW.out.2.1 rfl).1
                  have hE : E + 1 + k = a0.size := (HW.out.2.1 rfl).2
                  have hC : 0 ≤ C := HW.out.2.2
                  go_wp2_with fail
                  refine (allDigits_is a0 0 k true _ (Nat.zero_le _) hk hs hA _ _ rfl rfl).mono ?_
                  rintro e w' ⟨rfl, rfl⟩
                  go_wp2_with fail
                  refine (allDigits_is a0 (k + 1) a0.size true _ hlt (Nat.le_refl _) hs hB _ _ (by omega) rfl).mono ?_
                  rintro e w' ⟨rfl, rfl⟩
                  go_wp2
                  go_ret
                  exact ⟨rfl, Grown.refl _⟩
            · obtain rfl : O = false := by have := HW.out.1; simpa [hk1] using this
              go_wp2
              go_ret
              exact ⟨rfl, Grown.refl _⟩
          · obtain rfl : O = false := by have := HW.out.1; simpa [hk0] using this
            go_wp2
            go_ret
            exact ⟨rfl, Grown.refl _⟩
        · go_wp2
          go_round
          case rel => exact ⟨k + 1, by omega, by go_num, rfl, no46 a0 k hlt H46.out h2⟩
          case measure => simp [intOf]; omega
      · obtain ⟨A, hA⟩ : ∃ A, Hid (Pl.allDig (((bs a0).take a0.size).drop 0) = A) := ⟨_, rfl⟩
        obtain rfl : k = a0.size := by omega
        have HW : Hid _ := law_whole a0 C D E O A hL hA H46.out
        by_cases hk0 : 0 < a0.size
        · cases A
          · obtain rfl : O = false := by have := HW.out.1; simpa using this
            go_wp2_with (go_at_call 10; refine (allDigits_is a0 0 a0.size false _ (Nat.zero_le _) hk hs hA _ _ rfl rfl).mono ?_; rintro e w' ⟨rfl, rfl⟩)
            go_ret
            exact ⟨rfl, Grown.refl _⟩
          · obtain rfl : O = true := by have := HW.out.1; simpa [hk0] using this
            have hD : D = a0.size := (HW.out.2.1 rfl).1
            have hE : E = 0 := (HW.out.2.1 rfl).2
            have hC : 0 ≤ C := HW.out.2.2
            subst hD
            subst hE
            go_wp2_with (go_at_call 10; refine (allDigits_is a0 0 a0.size true _ (Nat.zero_le _) hk hs hA _ _ rfl rfl).mono ?_; rintro e w' ⟨rfl, rfl⟩)
            go_ret
            exact ⟨rfl, Grown.refl _⟩
        · obtain rfl : O = false := by have := HW.out.1; simpa [hk0] using this
          go_wp2
          go_ret
          exact ⟨rfl, Grown.refl _⟩
  · go_enter Try.func3, Try.ntmps3
    go_wp2
    go_ret
    exact ⟨rfl, Grown.refl _⟩

/-! ### THE ROW's STEP: WRITTEN OUT: LEAVE IT -/
set_option maxRecDepth 100000 in
theorem lifted (os : Os) (started : os.Started) (H : Type) (enc : TypeId × Value → H) :
    ReturnsInHanded {} Try.checked os 3 .any (Rows.fnPlainAcceptsExactlyTheGrammarSpec.pre6 enc Try.prog Try.f3 Rows.fnPlainAcceptsExactlyTheGrammarRow.domain false) (Rows.fnPlainAcceptsExactlyTheGrammarSpec.post enc Try.prog Try.f3 false true false false) := by
  refine returnsInHanded_of_change (C := Try.checked) own started (by kernel_rfl) Try.func3
    (ChangeSpec.witness6 (enc := enc) (C := Try.checked) false ⟨#[], #[.string ByteArray.empty], []⟩ 8 (by kernel_rfl) (by kernel_rfl) (by kernel_rfl) (by kernel_rfl)) ?_
  intro W base args ds gs before hval0 hW hcnd _
  have hval : ∀ (j : Nat) t v, Try.f3.params[j]? = some t → args[j]? = some v → Value.okWide Try.prog W .any base t v := hval0
  have hW' := hW
  obtain ⟨p, q, hA0, hV, rfl, hfz, hnd⟩ := hW
  have hA : DataW.TrodAll enc Try.prog W 0 (fun _ => true) true Try.f3.params.toList args.toList ds p := hA0
  rw [Try.params3] at hA hval
  obtain ⟨v0, vs0, d0, ds0, p0, q0, hargs, rfl, rfl, h0, r0⟩ := trodAll_cons hA
  obtain ⟨rfl, rfl, rfl⟩ := trodAll_nil r0
  obtain rfl : args = #[v0] := by cases args; simp_all
  obtain ⟨rfl, rfl⟩ := trodVars_none hV
  obtain ⟨a0, rfl, rfl, rfl, w0⟩ := open_string Try.underlying9 (hval 0 9 v0 rfl rfl) h0
  clear hA0 hval0
  simp only [List.append_nil] at hW'
  refine (walk a0 w0 W).mono fun e W' ⟨he, hg⟩ => ?_
  subst he
  exact ⟨_, rfl, post_of_same (pa := []) (pv := []) hW' (fun _ _ _ => (trodAll_cons_mk (shut_bool Try.underlying4 _) trodAll_mk0)) (fun sp _ => (trodAll_cons_mk (shut_string Try.underlying9 w0) trodAll_mk0)) (fun _ _ => rfl) rfl
    (hg.frame _) hg.2.1 (ok_one (by kernel_rfl) rfl (okWide_bool_mk Try.underlying4 _))⟩

theorem over : Rows.fnPlainAcceptsExactlyTheGrammarRow.holds Try.pinned (OpenSpec.ofChange Rows.fnPlainAcceptsExactlyTheGrammarSpec) :=
  OpenClaim.holds_of_wide 3 Try.f3 rfl rfl rfl rfl rfl rfl rfl ⟨rfl, rfl, rfl, rfl, rfl⟩ rfl rfl rfl rfl rfl (by kernel_rfl) Try.func3 (by kernel_rfl)
    (of_decide_eq_true (by kernel_rfl)) (by unfold Func.isWrapper; first | (rw [if_pos (by decide +kernel)]; kernel_rfl) | (rw [if_neg (by decide +kernel)]; exact ⟨rfl, rfl⟩))
    (fun os started H enc _ => lifted os started H enc)

/-- ████ THE STATEMENT ████ -/
theorem proved : Rows.FnPlainAcceptsExactlyTheGrammarSaid :=
  over
#print axioms proved
end Go.Proofs.Qxb6000799a.fnPlainAcceptsExactlyTheGrammar
