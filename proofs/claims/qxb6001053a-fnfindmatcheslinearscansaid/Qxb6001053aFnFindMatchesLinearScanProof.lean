/-
  Seat b6001053a: the proof of 'Rows.FnFindMatchesLinearScanSaid'. The frame is the guide's shell; the walk and the plain law are ours.
-/
import Derived.Test.Qxb6001053aRows
import Derived.Test.Qxb6001053aClone
import Derived.Handy
import Derived.WalkKit
import Derived.ProofKit
import Derived.OpenShut
import Derived.ShutString
import Derived.ChangeOld
import Derived.Below
namespace Go.Proofs.Qxb6001053a.fnFindMatchesLinearScan
open Go.ChangeShapes Go.WideShapes Go.ChangeAt Go.RowKit
open Go.ChangeMaps (open_string shut_string)
set_option linter.unusedVariables false

theorem own : ownKnob Try.prog.godebug = none := by kernel_rfl
theorem laidOut : laidOutB Try.prog = true := by kernel_rfl

/-- WHAT THE WALK IS TOLD OF A SLICE OF INTEGERS THAT CAME IN: it is nil; or it leads to a row of 'cap' cells, the numbers 'zs' (the first 'len' are its elements, the rest its spare room), each fitting its kind. -/
def IsRow (k : IntKind) (w : World) (a : Option Addr) (len cap : Nat) (zs : List Int) : Prop :=
  (a = none ∧ len = 0 ∧ cap = 0 ∧ zs = []) ∨
  ∃ x, a = some x ∧ len ≤ cap ∧ cap ≤ maxLen ∧ zs.length = cap ∧ (∀ i, i < zs.length → w.cell? (x.add i) = some (.int k (zs.getD i 0))) ∧ ∀ n ∈ zs, (Lit.int k n).wf = true

/-! ### STEP 1: THE WALK: the Go text returns true, AND WRITES NOTHING THAT WAS THERE: 'Below w.heap.size w w'' (Derived/Below.lean: '.refl', '.alloc', '.drew', '.setCell' at a new block, '.trans'). Open each 'IsRow' by 'rcases' AHEAD of 'go_enter'; part every test ahead of the walk. -/
theorem rd_of {w : World} {a : Option Addr} {len cap : Nat} {zs : List Int} (h : IsRow .u8 w a len cap zs) : len ≤ cap ∧ Rd w a len (zs.take len) := by
  rcases h with ⟨rfl, rfl, rfl, rfl⟩ | ⟨x, rfl, hl, _, hz, hc, hw⟩
  · exact ⟨Nat.le_refl _, rfl, fun x hx => by simp at hx, fun h => by omega⟩
  · refine ⟨hl, by simp; omega, fun x hx => bounds_u8 (hw x (List.mem_of_mem_take hx)), fun hn => ?_⟩
    obtain ⟨b, off, spot⟩ := x
    have hspot : spot = none := by simpa [Addr.add] using World.cell?_spot (hc 0 (by omega))
    subst hspot
    refine ⟨b, off, rfl, fun i hi => ?_⟩
    have := hc i (by omega)
    rw [add_plain] at this
    rw [this]
    simp [List.getD, hi]

/-- The rest of the law, once both slices are copied and 'find' has answered: the linear scan. -/
structure Scan (s N : Nat) (xs ys : List Int) (P k : Nat) (less : Int) (found : Bool) : Prop where
  le : k ≤ N
  less : less = ((min k P : Nat) : Int)
  found : found = Pl.fnd xs s ys k

theorem scan_start (s N : Nat) (xs ys : List Int) (P : Nat) : Scan s N xs ys P 0 0 false := ⟨Nat.zero_le _, by simp, by simp [Pl.fnd]⟩
theorem scan_less {s N : Nat} {xs ys : List Int} {P k : Nat} {less : Int} {found : Bool} (h : Scan s N xs ys P k less found) (hp : Pl.Place xs s N ys P) (hk : k < N) (hc : Pl.cmp (Pl.ent xs s k) ys < 0) : Scan s N xs ys P (k + 1) (less + 1) found := by
  have h1 := Pl.less_yes hp hk hc
  refine ⟨hk, by rw [h.less]; omega, ?_⟩
  rw [h.found, Pl.fnd_succ, show (Pl.cmp (Pl.ent xs s k) ys == 0) = false by rw [beq_eq_false_iff_ne]; omega]
  simp
theorem scan_hit {s N : Nat} {xs ys : List Int} {P k : Nat} {less : Int} {found : Bool} (h : Scan s N xs ys P k less found) (hp : Pl.Place xs s N ys P) (hk : k < N) (hc : Pl.cmp (Pl.ent xs s k) ys = 0) : Scan s N xs ys P (k + 1) less true := by
  have h1 := Pl.less_no hp (show ¬ Pl.cmp (Pl.ent xs s k) ys < 0 by omega)
  refine ⟨hk, by rw [h.less]; omega, ?_⟩
  rw [Pl.fnd_succ, hc]
  simp
theorem scan_over {s N : Nat} {xs ys : List Int} {P k : Nat} {less : Int} {found : Bool} (h : Scan s N xs ys P k less found) (hp : Pl.Place xs s N ys P) (hk : k < N) (hc : 0 < Pl.cmp (Pl.ent xs s k) ys) : Scan s N xs ys P (k + 1) less found := by
  have h1 := Pl.less_no hp (show ¬ Pl.cmp (Pl.ent xs s k) ys < 0 by omega)
  refine ⟨hk, by rw [h.less]; omega, ?_⟩
  rw [h.found, Pl.fnd_succ, show (Pl.cmp (Pl.ent xs s k) ys == 0) = false by rw [beq_eq_false_iff_ne]; omega]
  simp
theorem scan_end {s N : Nat} {xs ys : List Int} {P : Nat} {less : Int} {found : Bool} (h : Scan s N xs ys P N less found) (ha : Pl.Asc false xs s N) (hp : Pl.Place xs s N ys P) : (P : Int) = less ∧ (decide (P < N) && (Pl.ent xs s P == ys)) = found := by
  refine ⟨by rw [h.less, Nat.min_eq_right hp.le], ?_⟩
  rw [h.found, Pl.fnd_whole ha hp]

theorem walk (a0 : Option Addr) (len0 cap0 : Nat) (z0 : List Int) (a1 : Int) (a2 : Option Addr) (len2 cap2 : Nat) (z2 : List Int) (w : World) (w0 : IsRow .u8 w a0 len0 cap0 z0) (w1 : (Lit.int .i64 a1).wf = true) (w2 : IsRow .u8 w a2 len2 cap2 z2) :
    Calls Try.prog 3 #[.slice a0 len0 cap0, .int .i64 a1, .slice a2 len2 cap2] w fun e w' => e = .returned (.bool true) ∧ Below w.heap.size w w' := by
  obtain ⟨hcap, hrd⟩ := rd_of w0
  obtain ⟨hcap2, hrd2⟩ := rd_of w2
  have hmax : cap0 ≤ 9223372036854775807 := by
    rcases w0 with ⟨_, _, h, _⟩ | ⟨x, _, _, h, _⟩
    · omega
    · unfold maxLen at h; omega
  have hmax2 : cap2 ≤ 9223372036854775807 := by
    rcases w2 with ⟨_, _, h, _⟩ | ⟨x, _, _, h, _⟩
    · omega
    · unfold maxLen at h; omega
  generalize z0.take len0 = xs at hrd
  generalize z2.take len2 = ys at hrd2
  have HR : Hid (Rd w a0 len0 xs) := hrd
  have HR2 : Hid (Rd w a2 len2 ys) := hrd2
  have hb1 := bounds_i64 w1
  clear w0 w1 w2 hrd hrd2
  by_cases hn : len0 ≤ 1048576
  · by_cases hn2 : len2 ≤ 1048576
    · by_cases hsum : len0 + len2 ≤ 1048576
      · by_cases h1 : a1 < 1
        · go_enter Try.func3, Try.ntmps3
          go_wp2
          go_ret
          exact ⟨rfl, Below.refl _ _⟩
        · obtain ⟨s, rfl⟩ : ∃ s : Nat, a1 = (s : Int) := ⟨a1.toNat, by omega⟩
          have hs : 1 ≤ s := by omega
          have hs1 : (1 : Int) ≤ (s : Int) := by omega
          have hne : ¬ (s : Int) = 0 := by omega
          have hq1 : 0 ≤ (len0 : Int) / (s : Int) := (quo_bound hn).1
          have hq2 : (len0 : Int) / (s : Int) ≤ 1048576 := (quo_bound hn).2
          obtain ⟨N, hN⟩ : ∃ N, Hid (len0 / s = N) := ⟨_, rfl⟩
          have HQ : Hid ((len0 : Int) / (s : Int) = (N : Int)) := by rw [← hN.out]; rfl
          have hNb : N ≤ 1048576 := by rw [← hN.out]; exact Nat.le_trans (Nat.div_le_self len0 s) hn
          go_enter Try.func3, Try.ntmps3
          go_wp2_with (go_at_call 6; go_in)
          refine (asc_any len0 cap0 s N false a0 xs w hs hn hcap hN HR).mono ?_
          rintro e w' ⟨B, q, rfl, rfl, hB⟩
          cases B
          · clear hB
            go_wp2
            go_ret
            exact ⟨rfl, below_drewN (Below.refl _ _) _⟩
          · have HA : Hid (Pl.Asc false xs s N) := hB rfl
            clear hB
            go_wp2_with fail
            refine (clone_any a0 len0 cap0 xs _ hn hcap (HR.out.drewN q)).mono ?_
            rintro e w1 ⟨p1, c1, rfl, hc1, hr1, hbel1⟩
            have HB1 : Hid (Below w.heap.size w w1) := (below_drewN (Below.refl _ _) q).trans hbel1
            have HR1 : Hid (Rd w1 p1 len0 xs) := hr1
            clear hr1 hbel1
            go_wp2_with fail
            refine (clone_any a2 len2 cap2 ys w1 hn2 hcap2 (Rd.below HB1.out HR2.out)).mono ?_
            rintro e w2 ⟨p2, c2, rfl, hc2, hr2, hbel2⟩
            have HB2 : Hid (Below w.heap.size w w2) := HB1.out.trans (hbel2.mono HB1.out.size)
            have HR1b : Hid (Rd w2 p1 len0 xs) := Rd.below hbel2 HR1.out
            have HR2b : Hid (Rd w2 p2 len2 ys) := hr2
            clear hr2 hbel2
            go_wp2_with fail
            refine (zzfind_any len0 c1 s len2 c2 N false p1 p2 xs ys w2 hs hn hc1 hN HR1b HR2b HA).mono ?_
            rintro e w3 ⟨P, rfl, hbel3, hpl⟩
            have HP : Hid (Pl.Place xs s N ys P) := hpl
            have hPN := hpl.le
            have HB3 : Hid (Below w.heap.size w w3) := HB2.out.trans (hbel3.mono HB2.out.size)
            have HR1c : Hid (Rd w3 p1 len0 xs) := Rd.below hbel3 HR1b.out
            have HR2c : Hid (Rd w3 p2 len2 ys) := Rd.below hbel3 HR2b.out
            clear hpl hbel3
            obtain ⟨F, hF⟩ : ∃ F, Hid ((decide (P < N) && (Pl.ent xs s P == ys)) = F) := ⟨_, rfl⟩
            rw [hF.out]
            go_wp2_with fail
            rw [HQ.out]
            clear hq1 hq2
            go_loopw [10, 11, 12] (fun tl tf ti wr => ∃ (k q : Nat) (less : Int) (found : Bool), ti = .int .i64 k ∧ tl = .int .i64 less ∧ tf = .bool found ∧ wr = w3.drewN q ∧ Hid (Scan s N xs ys P k less found)) (fun _ _ ti _ => N - (intOf ti).toNat)
            case atStart => exact ⟨0, 0, 0, false, rfl, rfl, rfl, rfl, scan_start s N xs ys P⟩
            case round =>
              obtain ⟨k, q', less, found, rfl, rfl, rfl, rfl, HS⟩ := hrel
              have hkN := HS.out.le
              have hl1 : 0 ≤ less := by rw [HS.out.less]; omega
              have hl2 : less ≤ 1048576 := by rw [HS.out.less]; omega
              by_cases hlt : k < N
              · have HI : Hid ((k + 1) * s ≤ len0) := Pl.mul_le_of_lt_div (by rw [hN.out]; exact hlt)
                have hb4 := mul_bound HI.out hn
                have b3 : 0 ≤ ((k : Int) + 1) * (s : Int) := hb4.1
                have b4 : ((k : Int) + 1) * (s : Int) ≤ 1048576 := hb4.2
                clear hb4
                have b1 : 0 ≤ (k : Int) * (s : Int) := by rw [← mul_cast]; omega
                have b2 : (k : Int) * (s : Int) ≤ 1048576 := by have := mul_cast k s; have e := Nat.succ_mul k s; rw [Nat.succ_eq_add_one] at e; have := HI.out; omega
                have hsn : s ≤ 1048576 := by have e := Nat.succ_mul k s; rw [Nat.succ_eq_add_one] at e; have := HI.out; omega
                obtain ⟨b, o, hp, hre⟩ := (HR1c.out.drewN q').ent hs HI.out
                subst hp
                have HRe : Hid (Rd (w3.drewN q') (some ⟨b, o + k * s, none⟩) s (Pl.ent xs s k)) := hre
                clear hre
                have s0 := slice_ent b o len0 c1 s k hs hc1 HI.out _ _ rfl rfl
                go_wp2_with fail
                refine (b1Compare_any (some ⟨b, o + k * s, none⟩) p2 s _ len2 c2 (Pl.ent xs s k) ys _ HRe (HR2c.out.drewN q') hsn hn2).mono ?_
                rintro e w4 ⟨rfl, q4, rfl⟩
                go_wp2
                · have hc : Pl.cmp (Pl.ent xs s k) ys < 0 := by assumption
                  go_roundw
                  case rel => exact ⟨k + 1, _, _, _, by go_num, rfl, rfl, rfl, scan_less HS.out HP.out hlt hc⟩
                  case measure => simp [intOf]; omega
                · have hc : (Pl.cmp (Pl.ent xs s k) ys == 0) = true := by assumption
                  have hc' : Pl.cmp (Pl.ent xs s k) ys = 0 := by simpa using hc
                  go_roundw
                  case rel => exact ⟨k + 1, _, _, _, by go_num, rfl, rfl, rfl, scan_hit HS.out HP.out hlt hc'⟩
                  case measure => simp [intOf]; omega
                · have hc : (Pl.cmp (Pl.ent xs s k) ys == 0) = false := by assumption
                  have hc' : ¬ Pl.cmp (Pl.ent xs s k) ys = 0 := by simpa using hc
                  go_roundw
                  case rel => exact ⟨k + 1, _, _, _, by go_num, rfl, rfl, rfl, scan_over HS.out HP.out hlt (by omega)⟩
                  case measure => simp [intOf]; omega
              · obtain rfl : k = N := by omega
                obtain ⟨e1, e2⟩ := scan_end HS.out HA.out HP.out
                have e3 : F = found := by rw [← e2, ← hF.out]
                subst e1
                subst e3
                clear e2
                go_wp2
                go_ret
                exact ⟨rfl, below_drewN HB3.out _⟩
      · go_enter Try.func3, Try.ntmps3
        go_wp2
        go_ret
        exact ⟨rfl, Below.refl _ _⟩
    · go_enter Try.func3, Try.ntmps3
      go_wp2
      go_ret
      exact ⟨rfl, Below.refl _ _⟩
  · go_enter Try.func3, Try.ntmps3
    go_wp2
    go_ret
    exact ⟨rfl, Below.refl _ _⟩

/-! ### THE ROW's STEP: WRITTEN OUT: LEAVE IT -/
set_option maxRecDepth 100000 in
theorem lifted (os : Os) (started : os.Started) (H : Type) (enc : TypeId × Value → H) :
    ReturnsInHanded {} Try.checked os 3 .any (Rows.fnFindMatchesLinearScanSpec.pre6 enc Try.prog Try.f3 Rows.fnFindMatchesLinearScanRow.domain false) (Rows.fnFindMatchesLinearScanSpec.post enc Try.prog Try.f3 false true false false) := by
  refine returnsInHanded_of_change (C := Try.checked) own started (by kernel_rfl) Try.func3
    (ChangeSpec.witness6 (enc := enc) (C := Try.checked) false ⟨#[], #[.slice none 0 0, .int .i64 0, .slice none 0 0], []⟩ 8 (by kernel_rfl) (by kernel_rfl) (by kernel_rfl) (by kernel_rfl)) ?_
  intro W base args ds gs before hval0 hW hcnd _
  have hval : ∀ (j : Nat) t v, Try.f3.params[j]? = some t → args[j]? = some v → Value.okWide Try.prog W .any base t v := hval0
  have hW' := hW
  obtain ⟨p, q, hA0, hV, rfl, hfz, hnd⟩ := hW
  have hA : DataW.TrodAll enc Try.prog W 0 (fun _ => true) true Try.f3.params.toList args.toList ds p := hA0
  rw [Try.params3] at hA hval
  obtain ⟨v0, vs0, d0, ds0, p0, q0, hargs, rfl, rfl, h0, r0⟩ := trodAll_cons hA
  obtain ⟨v1, vs1, d1, ds1, p1, q1, rfl, rfl, rfl, h1, r1⟩ := trodAll_cons r0
  obtain ⟨v2, vs2, d2, ds2, p2, q2, rfl, rfl, rfl, h2, r2⟩ := trodAll_cons r1
  obtain ⟨rfl, rfl, rfl⟩ := trodAll_nil r2
  obtain rfl : args = #[v0, v1, v2] := by cases args; simp_all
  obtain ⟨rfl, rfl⟩ := trodVars_none hV
  obtain ⟨a0, len0, cap0, rfl⟩ := okWide_slice Try.underlying22 (hval 0 22 v0 rfl rfl)
  have k0 := h0
  have lt0 : ∀ x ∈ p0, x.block < W.heap.size := by obtain ⟨m, hm⟩ := k0; exact DataW.trod_lt m _ _ _ hm
  obtain ⟨z0, w0⟩ : ∃ zs, IsRow .u8 W a0 len0 cap0 zs := by
    obtain ⟨fuel, hf⟩ := h0
    rcases open_ints Try.underlying22 Try.underlying5 (by kernel_rfl) hf with ⟨hcs, _⟩ | ⟨x, l, c, zs, hcs, _, hl, hm, hz, _, hcell, hwz⟩
    · simp [Value.cells] at hcs
      obtain ⟨rfl, rfl, rfl⟩ := hcs
      exact ⟨[], .inl ⟨rfl, rfl, rfl, rfl⟩⟩
    · simp [Value.cells] at hcs
      obtain ⟨rfl, rfl, rfl⟩ := hcs
      exact ⟨zs, .inr ⟨_, rfl, hl, hm, by simpa using hz, hcell, hwz⟩⟩
  obtain ⟨a1, rfl, rfl, rfl, w1⟩ := open_int Try.underlying3 (hval 1 3 v1 rfl rfl) h1
  obtain ⟨a2, len2, cap2, rfl⟩ := okWide_slice Try.underlying22 (hval 2 22 v2 rfl rfl)
  have k2 := h2
  have lt2 : ∀ x ∈ p2, x.block < W.heap.size := by obtain ⟨m, hm⟩ := k2; exact DataW.trod_lt m _ _ _ hm
  obtain ⟨z2, w2⟩ : ∃ zs, IsRow .u8 W a2 len2 cap2 zs := by
    obtain ⟨fuel, hf⟩ := h2
    rcases open_ints Try.underlying22 Try.underlying5 (by kernel_rfl) hf with ⟨hcs, _⟩ | ⟨x, l, c, zs, hcs, _, hl, hm, hz, _, hcell, hwz⟩
    · simp [Value.cells] at hcs
      obtain ⟨rfl, rfl, rfl⟩ := hcs
      exact ⟨[], .inl ⟨rfl, rfl, rfl, rfl⟩⟩
    · simp [Value.cells] at hcs
      obtain ⟨rfl, rfl, rfl⟩ := hcs
      exact ⟨zs, .inr ⟨_, rfl, hl, hm, by simpa using hz, hcell, hwz⟩⟩
  clear hA0 hval0
  refine (walk a0 len0 cap0 z0 a1 a2 len2 cap2 z2 W w0 w1 w2).mono fun e W' ⟨he, bel⟩ => ?_
  subst he
  exact ⟨_, rfl, _, _, _, [], _, [], hW', trodAll_mk1 (shut_bool Try.underlying4 _), (trodAll_cons_mk (Below.trod laidOut (by kernel_rfl) (of_decide_eq_true (by kernel_rfl)) k0 bel lt0) (trodAll_cons_mk (shut_int Try.underlying3 w1) (trodAll_cons_mk (Below.trod laidOut (by kernel_rfl) (of_decide_eq_true (by kernel_rfl)) k2 bel lt2) trodAll_mk0))), rfl, bel.frame _, fun h => by cases h⟩

theorem over : Rows.fnFindMatchesLinearScanRow.holds Try.pinned (OpenSpec.ofChange Rows.fnFindMatchesLinearScanSpec) :=
  OpenClaim.holds_of_wide 3 Try.f3 rfl rfl rfl rfl rfl rfl rfl ⟨rfl, rfl, rfl, rfl, rfl⟩ rfl rfl rfl rfl rfl (by kernel_rfl) Try.func3 (by kernel_rfl)
    (of_decide_eq_true (by kernel_rfl)) (by unfold Func.isWrapper; first | (rw [if_pos (by decide +kernel)]; kernel_rfl) | (rw [if_neg (by decide +kernel)]; exact ⟨rfl, rfl⟩))
    (fun os started H enc _ => lifted os started H enc)

/-- ████ THE STATEMENT ████ -/
theorem proved : Rows.FnFindMatchesLinearScanSaid := over
#print axioms proved
end Go.Proofs.Qxb6001053a.fnFindMatchesLinearScan
