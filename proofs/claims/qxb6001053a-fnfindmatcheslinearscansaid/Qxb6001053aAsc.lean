/-
  Seat b6001053a: the contracts of b1Ascending, ZZPackIndexFind, b1Clone.
-/
import Derived.Test.Qxb6001053aFind
namespace Go.Proofs.Qxb6001053a
open Go.RowKit

theorem mul_bound {i s n : Nat} (h : (i + 1) * s ≤ n) (hn : n ≤ 1048576) : 0 ≤ ((i : Int) + 1) * (s : Int) ∧ ((i : Int) + 1) * (s : Int) ≤ 1048576 := by
  have := mul_cast (i + 1) s
  rw [show ((i + 1 : Nat) : Int) = (i : Int) + 1 from rfl] at this
  omega

theorem asc_step {st : Bool} {xs : List Int} {s j : Nat} (h : Pl.Asc st xs s (j + 1)) (h1 : Pl.cmp (Pl.ent xs s j) (Pl.ent xs s (j + 1)) ≤ 0) (h2 : st = true → Pl.cmp (Pl.ent xs s j) (Pl.ent xs s (j + 1)) < 0) : Pl.Asc st xs s (j + 1 + 1) := by
  intro i hi
  by_cases e : i = j
  · subst e; exact ⟨h1, h2⟩
  · exact h i (by omega)

/-- How b1Ascending ends. -/
def AscEnd (st : Bool) (xs : List Int) (s N : Nat) (w : World) (e : Ending) (w' : World) : Prop := ∃ (B : Bool) (q : Nat), e = .returned (.bool B) ∧ w' = w.drewN q ∧ (B = true → Pl.Asc st xs s N)
theorem ascEnd_mk {st : Bool} {xs : List Int} {s N : Nat} {w : World} {e : Ending} {w' : World} (B : Bool) (q : Nat) (h1 : e = .returned (.bool B)) (h2 : w' = w.drewN q) (h3 : B = true → Pl.Asc st xs s N) : AscEnd st xs s N w e w' := ⟨B, q, h1, h2, h3⟩

/-- b1Ascending. -/
theorem asc_any (n c s N : Nat) (st : Bool) (p : Option Addr) (xs : List Int) (w : World) (hs : 1 ≤ s) (hn : n ≤ 1048576) (hc : n ≤ c) (hN : Hid (n / s = N)) (h1 : Hid (Rd w p n xs)) :
    Calls Try.prog 7 #[.slice p n c, .int .i64 (s : Int), .bool st] w fun e w' => AscEnd st xs s N w e w' := by
  have hNb : N ≤ 1048576 := by rw [← hN.out]; exact Nat.le_trans (Nat.div_le_self n s) hn
  have HI : Hid (∀ i, i < N → (i + 1) * s ≤ n) := fun i hi => Pl.mul_le_of_lt_div (by rw [hN.out]; exact hi)
  have hs1 : (1 : Int) ≤ (s : Int) := by omega
  have hne : ¬ (s : Int) = 0 := by omega
  have hq1 : 0 ≤ (n : Int) / (s : Int) := (quo_bound hn).1
  have hq2 : (n : Int) / (s : Int) ≤ 1048576 := (quo_bound hn).2
  cases st
  · go_enter Try.func7, Try.ntmps7
    go_wp2
    have eN : (n : Int) / (s : Int) = (N : Int) := by rw [← hN.out]; rfl
    rw [eN]
    clear eN hq1 hq2
    go_loopw [8] (fun t wr => ∃ j q : Nat, (j = 0 ∨ j + 1 ≤ N) ∧ t = .int .i64 ((j : Int) + 1) ∧ wr = w.drewN q ∧ Hid (Pl.Asc false xs s (j + 1))) (fun t _ => N - (intOf t).toNat)
    case atStart => exact ⟨0, 0, .inl rfl, rfl, rfl, fun i hi => by omega⟩
    case round =>
      obtain ⟨j, q, hj, rfl, rfl, HA⟩ := hrel
      by_cases hlt : j + 1 < N
      · have i0 := HI.out j (by omega)
        have i1 := HI.out (j + 1) hlt
        obtain ⟨b, o, hp, r0⟩ := h1.out.ent hs i0
        obtain ⟨b', o', hp', r1⟩ := h1.out.ent hs i1
        subst hp
        simp only [Option.some.injEq, Addr.mk.injEq, and_true] at hp'
        obtain ⟨rfl, rfl⟩ := hp'
        have R0 : Hid _ := r0.drewN q
        have R1 : Hid _ := r1.drewN q
        clear r0 r1
        have b1 : 0 ≤ (j : Int) * (s : Int) := by rw [← mul_cast]; omega
        have b2 : (j : Int) * (s : Int) ≤ 1048576 := by have := mul_cast j s; have e := Nat.succ_mul j s; rw [Nat.succ_eq_add_one] at e; omega
        have b3 : 0 ≤ ((j : Int) + 1) * (s : Int) := (mul_bound i0 hn).1
        have b4 : ((j : Int) + 1) * (s : Int) ≤ 1048576 := (mul_bound i0 hn).2
        have b5 : 0 ≤ ((j : Int) + 1 + 1) * (s : Int) := (mul_bound i1 hn).1
        have b6 : ((j : Int) + 1 + 1) * (s : Int) ≤ 1048576 := (mul_bound i1 hn).2
        have w1 : IntKind.i64.wrap (j : Int) = j := IntWalk.i64_in _ (by omega)
        have w2 : IntKind.i64.wrap ((j : Int) * (s : Int)) = (j : Int) * (s : Int) := IntWalk.i64_in _ (by omega)
        have w3 : IntKind.i64.wrap (((j : Int) + 1) * (s : Int)) = ((j : Int) + 1) * (s : Int) := IntWalk.i64_in _ (by omega)
        have w4 : IntKind.i64.wrap ((j : Int) + 1 + 1) = (j : Int) + 1 + 1 := IntWalk.i64_in _ (by omega)
        have w5 : IntKind.i64.wrap (((j : Int) + 1 + 1) * (s : Int)) = ((j : Int) + 1 + 1) * (s : Int) := IntWalk.i64_in _ (by omega)
        have s0 := slice_ent b o n c s j hs hc i0 _ _ rfl rfl
        have s1 := slice_ent b o n c s (j + 1) hs hc i1 (((j : Int) + 1) * (s : Int)) (((j : Int) + 1 + 1) * (s : Int)) rfl rfl
        have hsn : s ≤ 1048576 := by have e := Nat.succ_mul j s; rw [Nat.succ_eq_add_one] at e; omega
        clear i0 i1 hj
        go_wp2
        generalize hW : w.drewN q = W at R0 R1 ⊢
        have HW : Hid _ := hW
        clear hW
        go_quiet ((go_at_call 10; exact Calls.quiet_of (b1Compare_any _ _ _ _ _ _ (Pl.ent xs s j) (Pl.ent xs s (j + 1)) _ (Rd.drewN R0.out _) (Rd.drewN R1.out _) hsn hsn)))
        go_wp2
        · go_ret
          exact ascEnd_mk false _ rfl (by rw [← HW.out, World.drewN_drewN]) (fun h => by cases h)
        · go_roundw
          case rel => exact ⟨j + 1, _, .inr (by omega), by go_num, by rw [← HW.out, World.drewN_drewN], asc_step HA.out (by omega) (fun h => by cases h)⟩
          case measure => simp [intOf]; omega
      · go_wp2
        go_ret
        exact ascEnd_mk true _ rfl rfl (fun _ i hi => HA.out i (by omega))
  · go_enter Try.func7, Try.ntmps7
    go_wp2
    have eN : (n : Int) / (s : Int) = (N : Int) := by rw [← hN.out]; rfl
    rw [eN]
    clear eN hq1 hq2
    go_loopw [8] (fun t wr => ∃ j q : Nat, (j = 0 ∨ j + 1 ≤ N) ∧ t = .int .i64 ((j : Int) + 1) ∧ wr = w.drewN q ∧ Hid (Pl.Asc true xs s (j + 1))) (fun t _ => N - (intOf t).toNat)
    case atStart => exact ⟨0, 0, .inl rfl, rfl, rfl, fun i hi => by omega⟩
    case round =>
      obtain ⟨j, q, hj, rfl, rfl, HA⟩ := hrel
      by_cases hlt : j + 1 < N
      · have i0 := HI.out j (by omega)
        have i1 := HI.out (j + 1) hlt
        obtain ⟨b, o, hp, r0⟩ := h1.out.ent hs i0
        obtain ⟨b', o', hp', r1⟩ := h1.out.ent hs i1
        subst hp
        simp only [Option.some.injEq, Addr.mk.injEq, and_true] at hp'
        obtain ⟨rfl, rfl⟩ := hp'
        have R0 : Hid _ := r0.drewN q
        have R1 : Hid _ := r1.drewN q
        clear r0 r1
        have b1 : 0 ≤ (j : Int) * (s : Int) := by rw [← mul_cast]; omega
        have b2 : (j : Int) * (s : Int) ≤ 1048576 := by have := mul_cast j s; have e := Nat.succ_mul j s; rw [Nat.succ_eq_add_one] at e; omega
        have b3 : 0 ≤ ((j : Int) + 1) * (s : Int) := (mul_bound i0 hn).1
        have b4 : ((j : Int) + 1) * (s : Int) ≤ 1048576 := (mul_bound i0 hn).2
        have b5 : 0 ≤ ((j : Int) + 1 + 1) * (s : Int) := (mul_bound i1 hn).1
        have b6 : ((j : Int) + 1 + 1) * (s : Int) ≤ 1048576 := (mul_bound i1 hn).2
        have w1 : IntKind.i64.wrap (j : Int) = j := IntWalk.i64_in _ (by omega)
        have w2 : IntKind.i64.wrap ((j : Int) * (s : Int)) = (j : Int) * (s : Int) := IntWalk.i64_in _ (by omega)
        have w3 : IntKind.i64.wrap (((j : Int) + 1) * (s : Int)) = ((j : Int) + 1) * (s : Int) := IntWalk.i64_in _ (by omega)
        have w4 : IntKind.i64.wrap ((j : Int) + 1 + 1) = (j : Int) + 1 + 1 := IntWalk.i64_in _ (by omega)
        have w5 : IntKind.i64.wrap (((j : Int) + 1 + 1) * (s : Int)) = ((j : Int) + 1 + 1) * (s : Int) := IntWalk.i64_in _ (by omega)
        have s0 := slice_ent b o n c s j hs hc i0 _ _ rfl rfl
        have s1 := slice_ent b o n c s (j + 1) hs hc i1 (((j : Int) + 1) * (s : Int)) (((j : Int) + 1 + 1) * (s : Int)) rfl rfl
        have hsn : s ≤ 1048576 := by have e := Nat.succ_mul j s; rw [Nat.succ_eq_add_one] at e; omega
        clear i0 i1 hj
        go_wp2
        generalize hW : w.drewN q = W at R0 R1 ⊢
        have HW : Hid _ := hW
        clear hW
        go_quiet ((go_at_call 10; exact Calls.quiet_of (b1Compare_any _ _ _ _ _ _ (Pl.ent xs s j) (Pl.ent xs s (j + 1)) _ (Rd.drewN R0.out _) (Rd.drewN R1.out _) hsn hsn)))
        go_wp2
        · go_ret
          exact ascEnd_mk false _ rfl (by rw [← HW.out, World.drewN_drewN]) (fun h => by cases h)
        · go_ret
          exact ascEnd_mk false _ rfl (by rw [← HW.out, World.drewN_drewN]) (fun h => by cases h)
        · have hz : (Pl.cmp (Pl.ent xs s j) (Pl.ent xs s (j + 1)) == 0) = false := by assumption
          have hz' : ¬ Pl.cmp (Pl.ent xs s j) (Pl.ent xs s (j + 1)) = 0 := by simpa using hz
          go_roundw
          case rel => exact ⟨j + 1, _, .inr (by omega), by go_num, by rw [← HW.out, World.drewN_drewN], asc_step HA.out (by omega) (fun _ => by omega)⟩
          case measure => simp [intOf]; omega
      · go_wp2
        go_ret
        exact ascEnd_mk true _ rfl rfl (fun _ i hi => HA.out i (by omega))

end Go.Proofs.Qxb6001053a
