/-
  Seat b6001053a: the contracts of packIndex's methods, and of b1Ascending.
-/
import Derived.Test.Qxb6001053aCalls
namespace Go.Proofs.Qxb6001053a
open Go.RowKit

/-- Quotients of lengths stay small. -/
theorem quo_bound {n s : Nat} (hn : n ≤ 1048576) : 0 ≤ (n : Int) / (s : Int) ∧ (n : Int) / (s : Int) ≤ 1048576 := by
  have e : (n : Int) / (s : Int) = ((n / s : Nat) : Int) := by simp
  have := Nat.div_le_self n s
  rw [e]
  exact ⟨Int.natCast_nonneg _, Int.ofNat_le.2 (Nat.le_trans this hn)⟩

theorem mul_cast (a b : Nat) : ((a * b : Nat) : Int) = (a : Int) * (b : Int) := by simp

/-- ids[i*s:j*s]. -/
theorem slice_ent (b o n c s i : Nat) (hs : 1 ≤ s) (hc : n ≤ c) (hi : (i + 1) * s ≤ n) (x y : Int) (hx : x = (i : Int) * (s : Int)) (hy : y = ((i : Int) + 1) * (s : Int)) (W : World) :
    (Instr.slice 22 (.slice (some ⟨b, o, none⟩) n c) (some (.int .i64 x)) (some (.int .i64 y)) none).run Try.prog W = .ok (.slice (some ⟨b, o + i * s, none⟩) s (c - i * s)) W := by
  have hm : (i + 1) * s = i * s + s := Nat.succ_mul i s
  have h := Lib.run_slice_window (P := Try.prog) W 22 5 Try.underlying22 Try.sizeOf5 b o n c (i * s) ((i + 1) * s) (by omega) (by omega)
  have e1 : x = ((i * s : Nat) : Int) := by rw [hx, mul_cast]
  have e2 : y = (((i + 1) * s : Nat) : Int) := by rw [hy, mul_cast]; rfl
  rw [e1, e2, h, show (i + 1) * s - i * s = s by omega]

/-- (*packIndex).len. -/
theorem len_any (B n c s : Nat) (p : Option Addr) (w : World) (hs0 : w.cell? ⟨B, 0, none⟩ = some (.slice p n c)) (hs5 : w.cell? ⟨B, 5, none⟩ = some (.int .i64 (s : Int))) (hs : 1 ≤ s) (hn : n ≤ 1048576) :
    Calls Try.prog 14 #[.pointer (some ⟨B, 0, none⟩)] w fun e w' => e = .returned (.int .i64 ((n : Int) / (s : Int))) ∧ ∃ q, w' = w.drewN q := by
  have hs1 : (1 : Int) ≤ (s : Int) := by omega
  have hne : ¬ (s : Int) = 0 := by omega
  have hq1 : 0 ≤ (n : Int) / (s : Int) := (quo_bound hn).1
  have hq2 : (n : Int) / (s : Int) ≤ 1048576 := (quo_bound hn).2
  go_enter Try.func14, Try.ntmps14
  go_wp2
  go_quiet (fail)
  go_wp2
  go_ret
  exact ⟨rfl, _, rfl⟩

/-- (*packIndex).id. -/
theorem id_any (B b o n c s i : Nat) (w : World) (hs0 : w.cell? ⟨B, 0, none⟩ = some (.slice (some ⟨b, o, none⟩) n c)) (hs5 : w.cell? ⟨B, 5, none⟩ = some (.int .i64 (s : Int))) (hs : 1 ≤ s) (hn : n ≤ 1048576) (hc : n ≤ c) (hi : (i + 1) * s ≤ n) :
    Calls Try.prog 16 #[.pointer (some ⟨B, 0, none⟩), .int .i64 (i : Int)] w fun e w' => e = .returned (.slice (some ⟨b, o + i * s, none⟩) s (c - i * s)) ∧ ∃ q, w' = w.drewN q := by
  have hm : (i + 1) * s = i * s + s := Nat.succ_mul i s
  have hi1 : (i : Int) ≤ 1048576 := by
    have : i * 1 ≤ i * s := Nat.mul_le_mul_left i hs
    omega
  have hb1 : 0 ≤ (i : Int) * (s : Int) := by rw [← mul_cast]; omega
  have hb2 : (i : Int) * (s : Int) ≤ 1048576 := by rw [← mul_cast]; omega
  have hb3 : 0 ≤ ((i : Int) + 1) * (s : Int) := by have := mul_cast (i + 1) s; rw [show ((i + 1 : Nat) : Int) = (i : Int) + 1 from rfl] at this; omega
  have hb4 : ((i : Int) + 1) * (s : Int) ≤ 1048576 := by have := mul_cast (i + 1) s; rw [show ((i + 1 : Nat) : Int) = (i : Int) + 1 from rfl] at this; omega
  have hsl := slice_ent b o n c s i hs hc hi _ _ rfl rfl
  clear hm hi
  go_enter Try.func16, Try.ntmps16
  go_wp2
  go_quiet (fail)
  go_wp2
  go_ret
  exact ⟨rfl, _, rfl⟩

theorem len_is (B n c s N : Nat) (p : Option Addr) (w : World) (hs0 : w.cell? ⟨B, 0, none⟩ = some (.slice p n c)) (hs5 : w.cell? ⟨B, 5, none⟩ = some (.int .i64 (s : Int))) (hs : 1 ≤ s) (hn : n ≤ 1048576) (hN : Hid (n / s = N)) (q0 : Nat) :
    Calls Try.prog 14 #[.pointer (some ⟨B, 0, none⟩)] (w.drewN q0) fun e w' => e = .returned (.int .i64 (N : Int)) ∧ ∃ q, w' = w.drewN q := by
  obtain rfl := hN.out
  refine (len_any B n c s p (w.drewN q0) (by simpa using hs0) (by simpa using hs5) hs hn).mono ?_
  rintro e w' ⟨rfl, q, rfl⟩
  exact ⟨rfl, _, World.drewN_drewN _ _ _⟩

/-- The i-th entry as a slice of its own. -/
theorem id_is (B n c s i : Nat) (p : Option Addr) (xs : List Int) (w : World) (hs0 : w.cell? ⟨B, 0, none⟩ = some (.slice p n c)) (hs5 : w.cell? ⟨B, 5, none⟩ = some (.int .i64 (s : Int))) (hs : 1 ≤ s) (hn : n ≤ 1048576) (hc : n ≤ c) (hi : Hid ((i + 1) * s ≤ n)) (h1 : Hid (Rd w p n xs)) (q0 : Nat) (x : Int) (hx : x = (i : Int)) :
    Calls Try.prog 16 #[.pointer (some ⟨B, 0, none⟩), .int .i64 x] (w.drewN q0) fun e w' => ∃ a d q, e = .returned (.slice (some a) s d) ∧ w' = w.drewN q ∧ ∀ q', Hid (Rd (w.drewN q') (some a) s (Pl.ent xs s i)) := by
  subst hx
  obtain ⟨b, o, rfl, hr⟩ := h1.out.ent hs hi.out
  refine (id_any B b o n c s i (w.drewN q0) (by simpa using hs0) (by simpa using hs5) hs hn hc hi.out).mono ?_
  rintro e w' ⟨rfl, q, rfl⟩
  exact ⟨_, _, _, rfl, World.drewN_drewN _ _ _, fun q' => hr.drewN q'⟩

theorem rett {P N : Nat} {o : Bool} {xs ys : List Int} {s : Nat} (h : o = (decide (P < N) && (Pl.ent xs s P == ys))) : Ending.returned (.tuple #[.int .i64 (P : Int), .bool o]) = .returned (.tuple #[.int .i64 (P : Int), .bool (decide (P < N) && (Pl.ent xs s P == ys))]) := by rw [h]

/-- (*packIndex).find. -/
theorem find_any (B n c s m d N : Nat) (st : Bool) (p p2 : Option Addr) (xs ys : List Int) (w : World) (hs0 : w.cell? ⟨B, 0, none⟩ = some (.slice p n c)) (hs5 : w.cell? ⟨B, 5, none⟩ = some (.int .i64 (s : Int)))
    (hs : 1 ≤ s) (hn : n ≤ 1048576) (hc : n ≤ c) (hN : Hid (n / s = N)) (h1 : Hid (Rd w p n xs)) (h2 : Hid (Rd w p2 m ys)) (hasc : Hid (Pl.Asc st xs s N)) :
    Calls Try.prog 13 #[.pointer (some ⟨B, 0, none⟩), .slice p2 m d] w fun e w' => ∃ P q : Nat, e = .returned (.tuple #[.int .i64 (P : Int), .bool (decide (P < N) && (Pl.ent xs s P == ys))]) ∧ w' = w.drewN q ∧ Pl.Place xs s N ys P := by
  have hNb : N ≤ 1048576 := by rw [← hN.out]; exact Nat.le_trans (Nat.div_le_self n s) hn
  have HI : Hid (∀ i, i < N → Hid ((i + 1) * s ≤ n)) := fun i hi => Pl.mul_le_of_lt_div (by rw [hN.out]; exact hi)
  go_enter Try.func13, Try.ntmps13
  go_wp2_with fail
  refine (len_is B n c s N p w hs0 hs5 hs hn hN 0).mono ?_
  rintro e w' ⟨rfl, q0, rfl⟩
  go_wp2_with fail
  go_loopw [6, 7] (fun tl th wr => ∃ l h q : Nat, tl = .int .i64 l ∧ th = .int .i64 h ∧ wr = w.drewN q ∧ Pl.Half xs s N ys l h) (fun tl th _ => (intOf th).toNat - (intOf tl).toNat)
  case atStart => exact ⟨0, N, _, rfl, rfl, rfl, Pl.half_start xs s N ys⟩
  case round =>
    obtain ⟨l, h, q, rfl, rfl, rfl, hh⟩ := hrel
    have hhN := hh.le
    have hlh := hh.lh
    have HH : Hid _ := hh
    clear hh
    by_cases hlt : l < h
    · go_wp2_with fail
      refine (id_is B n c s ((l + h) / 2) p xs w hs0 hs5 hs hn hc (HI.out _ (by omega)) h1 q _ (by omega)).mono ?_
      rintro e w' ⟨a, dd, q1, rfl, rfl, hr⟩
      have HR : Hid _ := hr
      clear hr
      go_wp2_with fail
      refine (compare_any (some a) p2 s dd m d (Pl.ent xs s ((l + h) / 2)) ys _ (HR.out q1) (h2.out.drewN q1)).mono ?_
      rintro e w' ⟨rfl, rfl⟩
      by_cases hlt2 : Pl.cmp (Pl.ent xs s ((l + h) / 2)) ys < 0
      · go_wp2
        go_roundw
        case rel => exact ⟨(l + h) / 2 + 1, h, q1, by go_num, rfl, rfl, Pl.half_up hasc.out HH.out (by omega) hlt2⟩
        case measure => simp [intOf]; omega
      · go_wp2
        go_roundw
        case rel => exact ⟨l, (l + h) / 2, q1, rfl, by go_num, rfl, Pl.half_down hasc.out HH.out (by omega) (by omega) (by omega)⟩
        case measure => simp [intOf]; omega
    · have HP : Hid _ := Pl.half_end HH.out hlt
      go_wp2_with fail
      refine (len_is B n c s N p w hs0 hs5 hs hn hN q).mono ?_
      rintro e w' ⟨rfl, q2, rfl⟩
      by_cases hlN : l < N
      · go_wp2_with fail
        refine (id_is B n c s l p xs w hs0 hs5 hs hn hc (HI.out _ hlN) h1 q2 _ rfl).mono ?_
        rintro e w' ⟨a, dd, q1, rfl, rfl, hr⟩
        have HR : Hid _ := hr
        clear hr
        go_wp2_with fail
        refine (equal_any (some a) p2 s dd m d (Pl.ent xs s l) ys _ (HR.out q1) (h2.out.drewN q1)).mono ?_
        rintro e w' ⟨rfl, rfl⟩
        go_wp2
        go_ret2
        exact ⟨l, q1, rett (by simp [hlN]), rfl, HP.out⟩
      · go_wp2
        go_ret2
        exact ⟨l, _, rett (by simp [hlN]), rfl, HP.out⟩

end Go.Proofs.Qxb6001053a
