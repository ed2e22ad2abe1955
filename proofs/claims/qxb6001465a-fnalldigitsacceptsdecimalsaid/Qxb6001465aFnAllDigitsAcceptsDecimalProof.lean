/-
  Seat b6001465a: the proof of 'Rows.FnAllDigitsAcceptsDecimalSaid'. The frame is the guide's shell, its end turned from 'Grown' to 'Below' (the law makes rows of its own and writes into them); the walk is ours.
-/
import Derived.Test.Qxb6001465aRows
import Derived.Test.Qxb6001465aCalls
import Derived.Handy
import Derived.ChangeOld
import Derived.Below
import Derived.WalkKit
import Derived.ProofKit
import Derived.OpenShut
import Derived.ShutString
namespace Go.Proofs.Qxb6001465a.fnAllDigitsAcceptsDecimal
open Go.ChangeShapes Go.WideShapes Go.ChangeAt Go.RowKit
open Go.ChangeMaps (open_string shut_string)
set_option linter.unusedVariables false      -- a walk need not use every 'w<i>' (that an integer argument fits its kind)

theorem own : ownKnob Try.prog.godebug = none := by kernel_rfl

/-- What the loop of leading zeros holds. -/
structure Zeros (B k cap : Nat) (w wr : World) : Prop where
  own : OwnDig wr B B k cap
  bel : Below B w wr
  base : B ≤ wr.heap.size

theorem zeros_step {B k cap : Nat} {w wr w1 : World} {xs : List Int} {o : Obj} (h : Zeros B k cap w wr) (hxs : ∀ x ∈ xs, 48 ≤ x ∧ x ≤ 57)
    (h1 : w1.ownsRow B 5 1 (.slice (some ⟨B, 0, none⟩) (k + 1) cap) (k + 1) (xs.map (Value.int .u8) ++ [.int .u8 48])) (hg : (wr.alloc o).grownBy w1 (some B)) : Zeros B (k + 1) cap w w1 := by
  have hsz : (wr.alloc o).heap.size = wr.heap.size + 1 := by simp
  have hle := hg.size
  have hbs := h.base
  exact ⟨own_next hxs (by omega) h1, (h.bel.alloc hbs _).grown hg (by omega) (fun j hj => by cases hj; exact Nat.le_refl _), by omega⟩

/-! ### STEP 1: THE WALK -/
theorem walk (a0 : Int) (a1 : Int) (w0 : (Lit.int .u64 a0).wf = true) (w1 : (Lit.int .i64 a1).wf = true) (w : World) :
    Calls Try.prog 5 #[.int .u64 a0, .int .i64 a1] w fun e w' => e = .returned (.bool true) ∧ Below w.heap.size w w' := by
  have hb0 := bounds_u64 w0
  have hb1 := bounds_i64 w1
  clear w0 w1
  by_cases h1 : a1 < 0
  · go_enter Try.func5, Try.ntmps5
    go_wp2
    go_ret
    exact ⟨rfl, Below.refl _ _⟩
  · by_cases h2 : 65536 < a1
    · go_enter Try.func5, Try.ntmps5
      go_wp2
      go_ret
      exact ⟨rfl, Below.refl _ _⟩
    · obtain ⟨z, rfl⟩ : ∃ z : Nat, a1 = (z : Int) := ⟨a1.toNat, by omega⟩
      obtain ⟨i0, hi, hz0, hz1, hz2⟩ := info_parts Try.info5
      go_enter Try.func5, Try.ntmps5
      go_wp2_with (first
        | (at_make; refine wpList_make_own _ rfl (.const (.int .i64 0)) (.tmp 14) 25 rfl w.heap.size 5 i0 (.int .u8 0) 1 Try.underlying25 hi hz0 hz1 .i64 .i64 _ (z + 20) rfl rfl (by omega) (by rw [hz2]; omega) (by unfold maxLen; omega) (Nat.le_refl _) ?_; intro w1 hown hgrow)
        | go_in)
      have HZ : Hid (Zeros w.heap.size 0 (z + 20) w w1) := ⟨⟨[], fun x hx => by simp at hx, hown⟩, (Below.refl _ _).grown hgrow (Nat.le_refl _) (fun k hk => by cases hk), hgrow.size⟩
      clear hown hgrow
      go_loopw [5, 6] (fun tb tk wr => ∃ k : Nat, k ≤ z ∧ tb = .slice (some ⟨w.heap.size, 0, none⟩) k (z + 20) ∧ tk = .int .i64 k ∧ Hid (Zeros w.heap.size k (z + 20) w wr)) (fun _ tk _ => z - (intOf tk).toNat)
      case atStart => exact ⟨0, Nat.zero_le _, rfl, rfl, HZ⟩
      case round =>
        clear HZ
        obtain ⟨k, hk, rfl, rfl, HZ⟩ := hrel
        by_cases hlt : k < z
        · obtain ⟨xs, hxs, hown⟩ := HZ.out.own
          have HX : Hid _ := hxs
          clear hxs
          go_wp2_with (first
            | (at_builtin; refine wpList_append_fits _ rfl (.tmp 19) (.tmp 20) 25 rfl w.heap.size 5 i0 1 Try.underlying25 hi hz1 w.heap.size k (z + 20) _ rfl (hown.alloc _) ⟨wr.heap.size, 0, none⟩ 1 1 [.int .u8 48] rfl rfl (one_new _ _ _) (one_cell _) (by omega) ?_; intro w1 hown1 hgrow)
            | go_in)
          have HN : Hid _ := zeros_step HZ.out HX.out hown1 hgrow
          clear hown1 hgrow hown
          go_roundw
          case rel => exact ⟨k + 1, by omega, rfl, by go_num, HN⟩
          case measure => simp [intOf]; omega
        · obtain rfl : k = z := by omega
          have HB : Hid (Below w.heap.size w wr) := HZ.out.bel
          go_wp2_with fail
          refine (dec_any w.heap.size w.heap.size k (k + 20) a0 _ hb0.1 hb0.2 (by omega) HZ.out.base HZ.out.own).mono ?_
          rintro e w2 ⟨k2, rfl, hk2, hown2, hbel2⟩
          have HB2 : Hid (Below w.heap.size w w2) := HB.out.trans hbel2
          have hsz : w.heap.size ≤ w2.heap.size := HB2.out.size
          have hcap2 : k2 ≤ k + 20 := by
            obtain ⟨xs, _, ho⟩ := hown2
            rcases ho.2 with ⟨h', _⟩ | ⟨g', cap', cur, h', _, _, hle, _⟩
            · simp at h'
            · simp only [Value.slice.injEq] at h'
              omega
          obtain ⟨s, hcv, hss, hsd⟩ := str_of hown2
          have HS : Hid (∀ j (hj : j < s.size), 48 ≤ (s[j]).toNat ∧ (s[j]).toNat ≤ 57) := hsd
          clear hsd hown2 hbel2
          go_wp2_with fail
          refine (zzallDigits_yes s w2 (by omega) (by omega) HS).mono ?_
          rintro e w3 ⟨rfl, hbel3⟩
          have HB3 : Hid (Below w.heap.size w w3) := HB2.out.trans (hbel3.mono hsz)
          clear hbel3
          go_wp2
          go_ret
          exact ⟨rfl, HB3.out⟩

/-! ### THE ROW's STEP: WRITTEN OUT: LEAVE IT -/
set_option maxRecDepth 100000 in
theorem lifted (os : Os) (started : os.Started) (H : Type) (enc : TypeId × Value → H) :
    ReturnsInHanded {} Try.checked os 5 .any (Rows.fnAllDigitsAcceptsDecimalSpec.pre6 enc Try.prog Try.f5 Rows.fnAllDigitsAcceptsDecimalRow.domain false) (Rows.fnAllDigitsAcceptsDecimalSpec.post enc Try.prog Try.f5 false true false false) := by
  refine returnsInHanded_of_change (C := Try.checked) own started (by kernel_rfl) Try.func5
    (ChangeSpec.witness6 (enc := enc) (C := Try.checked) false ⟨#[], #[.int .u64 0, .int .i64 0], []⟩ 8 (by kernel_rfl) (by kernel_rfl) (by kernel_rfl) (by kernel_rfl)) ?_
  intro W base args ds gs before hval0 hW hcnd _
  have hval : ∀ (j : Nat) t v, Try.f5.params[j]? = some t → args[j]? = some v → Value.okWide Try.prog W .any base t v := hval0
  have hW' := hW
  obtain ⟨p, q, hA0, hV, rfl, hfz, hnd⟩ := hW
  have hA : DataW.TrodAll enc Try.prog W 0 (fun _ => true) true Try.f5.params.toList args.toList ds p := hA0
  rw [Try.params5] at hA hval
  obtain ⟨v0, vs0, d0, ds0, p0, q0, hargs, rfl, rfl, h0, r0⟩ := trodAll_cons hA
  obtain ⟨v1, vs1, d1, ds1, p1, q1, rfl, rfl, rfl, h1, r1⟩ := trodAll_cons r0
  obtain ⟨rfl, rfl, rfl⟩ := trodAll_nil r1
  obtain rfl : args = #[v0, v1] := by cases args; simp_all
  obtain ⟨rfl, rfl⟩ := trodVars_none hV
  obtain ⟨a0, rfl, rfl, rfl, w0⟩ := open_int Try.underlying26 (hval 0 26 v0 rfl rfl) h0
  obtain ⟨a1, rfl, rfl, rfl, w1⟩ := open_int Try.underlying3 (hval 1 3 v1 rfl rfl) h1
  clear hA0 hval0
  refine (walk a0 a1 w0 w1 W).mono fun e W' ⟨he, bel⟩ => ?_
  subst he
  exact ⟨_, rfl, _, _, _, [], [], [], hW', trodAll_mk1 (shut_bool Try.underlying4 _), (trodAll_cons_mk (shut_int Try.underlying26 w0) (trodAll_cons_mk (shut_int Try.underlying3 w1) trodAll_mk0)), rfl, bel.frame _, fun h => by cases h⟩

theorem over : Rows.fnAllDigitsAcceptsDecimalRow.holds Try.pinned (OpenSpec.ofChange Rows.fnAllDigitsAcceptsDecimalSpec) :=
  OpenClaim.holds_of_wide 5 Try.f5 rfl rfl rfl rfl rfl rfl rfl ⟨rfl, rfl, rfl, rfl, rfl⟩ rfl rfl rfl rfl rfl (by kernel_rfl) Try.func5 (by kernel_rfl)
    (of_decide_eq_true (by kernel_rfl)) (by unfold Func.isWrapper; first | (rw [if_pos (by decide +kernel)]; kernel_rfl) | (rw [if_neg (by decide +kernel)]; exact ⟨rfl, rfl⟩))
    (fun os started H enc _ => lifted os started H enc)

/-- ████ THE STATEMENT ████ -/
theorem proved : Rows.FnAllDigitsAcceptsDecimalSaid :=
  over
#print axioms proved
end Go.Proofs.Qxb6001465a.fnAllDigitsAcceptsDecimal
