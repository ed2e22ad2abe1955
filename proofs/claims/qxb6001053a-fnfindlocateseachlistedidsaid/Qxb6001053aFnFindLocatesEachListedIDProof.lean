/-
  Seat b6001053a: the proof of 'Rows.FnFindLocatesEachListedIDSaid'. The frame is the guide's shell; the walk and the plain law are ours.
-/
import Derived.Test.Qxb6001053aRows
import Derived.Test.Qxb6001053aClone
import Derived.Handy
import Derived.WalkKit
import Derived.ProofKit
import Derived.OpenShut
import Derived.ShutString
import Derived.ChangeOld
import Derived.Below
namespace Go.Proofs.Qxb6001053a.fnFindLocatesEachListedID
open Go.ChangeShapes Go.WideShapes Go.ChangeAt Go.RowKit
open Go.ChangeMaps (open_string shut_string)
set_option linter.unusedVariables false

theorem own : ownKnob Try.prog.godebug = none := by kernel_rfl
theorem laidOut : laidOutB Try.prog = true := by kernel_rfl

/-- WHAT THE WALK IS TOLD OF A SLICE OF INTEGERS THAT CAME IN: it is nil; or it leads to a row of 'cap' cells, the numbers 'zs' (the first 'len' are its elements, the rest its spare room), each fitting its kind. -/
def IsRow (k : IntKind) (w : World) (a : Option Addr) (len cap : Nat) (zs : List Int) : Prop :=
  (a = none ∧ len = 0 ∧ cap = 0 ∧ zs = []) ∨
  ∃ x, a = some x ∧ len ≤ cap ∧ cap ≤ maxLen ∧ zs.length = cap ∧ (∀ i, i < zs.length → w.cell? (x.add i) = some (.int k (zs.getD i 0))) ∧ ∀ n ∈ zs, (Lit.int k n).wf = true

/-! ### STEP 1: THE WALK: the Go text returns true, AND WRITES NOTHING THAT WAS THERE: 'Below w.heap.size w w'' (Derived/Below.lean: '.refl', '.alloc', '.drew', '.setCell' at a new block, '.trans'). Open each 'IsRow' by 'rcases' AHEAD of 'go_enter'; part every test ahead of the walk. -/
theorem rd_of {w : World} {a : Option Addr} {len cap : Nat} {zs : List Int} (h : IsRow .u8 w a len cap zs) : len ≤ cap ∧ Rd w a len (zs.take len) := by
  rcases h with ⟨rfl, rfl, rfl, rfl⟩ | ⟨x, rfl, hl, _, hz, hc, hw⟩
  · exact ⟨Nat.le_refl _, rfl, fun x hx => by simp at hx, fun h => by omega⟩
  · refine ⟨hl, by simp; omega, fun x hx => bounds_u8 (hw x (List.mem_of_mem_take hx)), fun hn => ?_⟩
    obtain ⟨b, off, spot⟩ := x
    have hspot : spot = none := by simpa [Addr.add] using World.cell?_spot (hc 0 (by omega))
    subst hspot
    refine ⟨b, off, rfl, fun i hi => ?_⟩
    have := hc i (by omega)
    rw [add_plain] at this
    rw [this]
    simp [List.getD, hi]

theorem walk (a0 : Option Addr) (len0 cap0 : Nat) (z0 : List Int) (a1 : Int) (a2 : Int) (w : World) (w0 : IsRow .u8 w a0 len0 cap0 z0) (w1 : (Lit.int .i64 a1).wf = true) (w2 : (Lit.int .i64 a2).wf = true) :
    Calls Try.prog 4 #[.slice a0 len0 cap0, .int .i64 a1, .int .i64 a2] w fun e w' => e = .returned (.bool true) ∧ Below w.heap.size w w' := by
  obtain ⟨hcap, hrd⟩ := rd_of w0
  have hmax : cap0 ≤ 9223372036854775807 := by
    rcases w0 with ⟨_, _, h, _⟩ | ⟨x, _, _, h, _⟩
    · omega
    · unfold maxLen at h; omega
  generalize z0.take len0 = xs at hrd
  have HR : Hid (Rd w a0 len0 xs) := hrd
  have hb1 := bounds_i64 w1
  have hb2 := bounds_i64 w2
  clear w0 w1 w2 hrd
  by_cases hn : len0 ≤ 1048576
  · by_cases h1 : a1 < 1
    · go_enter Try.func4, Try.ntmps4
      go_wp2
      go_ret
      exact ⟨rfl, Below.refl _ _⟩
    · obtain ⟨s, rfl⟩ : ∃ s : Nat, a1 = (s : Int) := ⟨a1.toNat, by omega⟩
      have hs : 1 ≤ s := by omega
      have hs1 : (1 : Int) ≤ (s : Int) := by omega
      have hne : ¬ (s : Int) = 0 := by omega
      have hq1 : 0 ≤ (len0 : Int) / (s : Int) := (quo_bound hn).1
      have hq2 : (len0 : Int) / (s : Int) ≤ 1048576 := (quo_bound hn).2
      obtain ⟨N, hN⟩ : ∃ N, Hid (len0 / s = N) := ⟨_, rfl⟩
      have HQ : Hid ((len0 : Int) / (s : Int) = (N : Int)) := by rw [← hN.out]; rfl
      by_cases h2 : a2 < 0
      · go_enter Try.func4, Try.ntmps4
        go_wp2
        go_ret
        exact ⟨rfl, Below.refl _ _⟩
      · obtain ⟨i, rfl⟩ : ∃ i : Nat, a2 = (i : Int) := ⟨a2.toNat, by omega⟩
        by_cases h3 : (len0 : Int) / (s : Int) ≤ (i : Int)
        · go_enter Try.func4, Try.ntmps4
          go_wp2
          go_ret
          exact ⟨rfl, Below.refl _ _⟩
        · have hiN : i < N := by have := HQ.out; omega
          have HI : Hid ((i + 1) * s ≤ len0) := Pl.mul_le_of_lt_div (by rw [hN.out]; exact hiN)
          go_enter Try.func4, Try.ntmps4
          go_wp2_with (go_at_call 11; go_in)
          refine (asc_any len0 cap0 s N true a0 xs w hs hn hcap hN HR).mono ?_
          rintro e w' ⟨B, q, rfl, rfl, hB⟩
          cases B
          · clear hB
            go_wp2
            go_ret
            exact ⟨rfl, below_drewN (Below.refl _ _) _⟩
          · have HA : Hid (Pl.Asc true xs s N) := hB rfl
            clear hB
            have hb4 := mul_bound HI.out hn
            have b3 : 0 ≤ ((i : Int) + 1) * (s : Int) := hb4.1
            have b4 : ((i : Int) + 1) * (s : Int) ≤ 1048576 := hb4.2
            clear hb4
            have b1 : 0 ≤ (i : Int) * (s : Int) := by rw [← mul_cast]; omega
            have b2 : (i : Int) * (s : Int) ≤ 1048576 := by have := mul_cast i s; have e := Nat.succ_mul i s; rw [Nat.succ_eq_add_one] at e; have := HI.out; omega
            go_wp2_with fail
            refine (clone_any a0 len0 cap0 xs _ hn hcap (HR.out.drewN q)).mono ?_
            rintro e w1 ⟨p', c', rfl, hc', hr', hbel⟩
            obtain ⟨b, o, hp, hre⟩ := hr'.ent hs HI.out
            subst hp
            have HRe : Hid (Rd w1 (some ⟨b, o + i * s, none⟩) s (Pl.ent xs s i)) := hre
            have HR' : Hid (Rd w1 (some ⟨b, o, none⟩) len0 xs) := hr'
            have HB : Hid (Below w.heap.size w w1) := (below_drewN (Below.refl _ _) q).trans hbel
            clear hre hr' hbel
            have s0 := slice_ent b o len0 c' s i hs hc' HI.out _ _ rfl rfl
            go_wp2_with fail
            refine (zzfind_any len0 c' s s (c' - i * s) N true (some ⟨b, o, none⟩) (some ⟨b, o + i * s, none⟩) xs (Pl.ent xs s i) w1 hs hn hc' hN HR' HRe HA).mono ?_
            rintro e w2 ⟨P, rfl, hbel2, hpl⟩
            obtain rfl : P = i := Pl.place_of HA.out hiN hpl
            have e1 : (decide (P < N) && (Pl.ent xs s P == Pl.ent xs s P)) = true := by simp [hiN]
            rw [e1]
            have HB2 : Hid (Below w.heap.size w w2) := HB.out.trans (hbel2.mono HB.out.size)
            clear e1 hpl hbel2
            go_wp2
            go_ret
            exact ⟨rfl, HB2.out⟩
  · go_enter Try.func4, Try.ntmps4
    go_wp2
    go_ret
    exact ⟨rfl, Below.refl _ _⟩

/-! ### THE ROW's STEP: WRITTEN OUT: LEAVE IT -/
set_option maxRecDepth 100000 in
theorem lifted (os : Os) (started : os.Started) (H : Type) (enc : TypeId × Value → H) :
    ReturnsInHanded {} Try.checked os 4 .any (Rows.fnFindLocatesEachListedIDSpec.pre6 enc Try.prog Try.f4 Rows.fnFindLocatesEachListedIDRow.domain false) (Rows.fnFindLocatesEachListedIDSpec.post enc Try.prog Try.f4 false true false false) := by
  refine returnsInHanded_of_change (C := Try.checked) own started (by kernel_rfl) Try.func4
    (ChangeSpec.witness6 (enc := enc) (C := Try.checked) false ⟨#[], #[.slice none 0 0, .int .i64 0, .int .i64 0], []⟩ 8 (by kernel_rfl) (by kernel_rfl) (by kernel_rfl) (by kernel_rfl)) ?_
  intro W base args ds gs before hval0 hW hcnd _
  have hval : ∀ (j : Nat) t v, Try.f4.params[j]? = some t → args[j]? = some v → Value.okWide Try.prog W .any base t v := hval0
  have hW' := hW
  obtain ⟨p, q, hA0, hV, rfl, hfz, hnd⟩ := hW
  have hA : DataW.TrodAll enc Try.prog W 0 (fun _ => true) true Try.f4.params.toList args.toList ds p := hA0
  rw [Try.params4] at hA hval
  obtain ⟨v0, vs0, d0, ds0, p0, q0, hargs, rfl, rfl, h0, r0⟩ := trodAll_cons hA
  obtain ⟨v1, vs1, d1, ds1, p1, q1, rfl, rfl, rfl, h1, r1⟩ := trodAll_cons r0
  obtain ⟨v2, vs2, d2, ds2, p2, q2, rfl, rfl, rfl, h2, r2⟩ := trodAll_cons r1
  obtain ⟨rfl, rfl, rfl⟩ := trodAll_nil r2
  obtain rfl : args = #[v0, v1, v2] := by cases args; simp_all
  obtain ⟨rfl, rfl⟩ := trodVars_none hV
  obtain ⟨a0, len0, cap0, rfl⟩ := okWide_slice Try.underlying22 (hval 0 22 v0 rfl rfl)
  have k0 := h0
  have lt0 : ∀ x ∈ p0, x.block < W.heap.size := by obtain ⟨m, hm⟩ := k0; exact DataW.trod_lt m _ _ _ hm
  obtain ⟨z0, w0⟩ : ∃ zs, IsRow .u8 W a0 len0 cap0 zs := by
    obtain ⟨fuel, hf⟩ := h0
    rcases open_ints Try.underlying22 Try.underlying5 (by kernel_rfl) hf with ⟨hcs, _⟩ | ⟨x, l, c, zs, hcs, _, hl, hm, hz, _, hcell, hwz⟩
    · simp [Value.cells] at hcs
      obtain ⟨rfl, rfl, rfl⟩ := hcs
      exact ⟨[], .inl ⟨rfl, rfl, rfl, rfl⟩⟩
    · simp [Value.cells] at hcs
      obtain ⟨rfl, rfl, rfl⟩ := hcs
      exact ⟨zs, .inr ⟨_, rfl, hl, hm, by simpa using hz, hcell, hwz⟩⟩
  obtain ⟨a1, rfl, rfl, rfl, w1⟩ := open_int Try.underlying3 (hval 1 3 v1 rfl rfl) h1
  obtain ⟨a2, rfl, rfl, rfl, w2⟩ := open_int Try.underlying3 (hval 2 3 v2 rfl rfl) h2
  clear hA0 hval0
  refine (walk a0 len0 cap0 z0 a1 a2 W w0 w1 w2).mono fun e W' ⟨he, bel⟩ => ?_
  subst he
  exact ⟨_, rfl, _, _, _, [], _, [], hW', trodAll_mk1 (shut_bool Try.underlying4 _), (trodAll_cons_mk (Below.trod laidOut (by kernel_rfl) (of_decide_eq_true (by kernel_rfl)) k0 bel lt0) (trodAll_cons_mk (shut_int Try.underlying3 w1) (trodAll_cons_mk (shut_int Try.underlying3 w2) trodAll_mk0))), rfl, bel.frame _, fun h => by cases h⟩

theorem over : Rows.fnFindLocatesEachListedIDRow.holds Try.pinned (OpenSpec.ofChange Rows.fnFindLocatesEachListedIDSpec) :=
  OpenClaim.holds_of_wide 4 Try.f4 rfl rfl rfl rfl rfl rfl rfl ⟨rfl, rfl, rfl, rfl, rfl⟩ rfl rfl rfl rfl rfl (by kernel_rfl) Try.func4 (by kernel_rfl)
    (of_decide_eq_true (by kernel_rfl)) (by unfold Func.isWrapper; first | (rw [if_pos (by decide +kernel)]; kernel_rfl) | (rw [if_neg (by decide +kernel)]; exact ⟨rfl, rfl⟩))
    (fun os started H enc _ => lifted os started H enc)

/-- ████ THE STATEMENT ████ -/
theorem proved : Rows.FnFindLocatesEachListedIDSaid := over
#print axioms proved
end Go.Proofs.Qxb6001053a.fnFindLocatesEachListedID
