/-
  Seat b6001053a: the contracts of b1Clone and ZZPackIndexFind.
-/
import Derived.Test.Qxb6001053aAsc
import Derived.WalkSmall
import Derived.Lib.SliceRun
namespace Go.Proofs.Qxb6001053a
open Go.RowKit

theorem Rd.below {w w' : World} {p : Option Addr} {n : Nat} {xs : List Int} (hb : Below w.heap.size w w') (h : Rd w p n xs) : Rd w' p n xs := by
  refine ⟨h.1, h.2.1, fun hn => ?_⟩
  obtain ⟨b, o, hp, hc⟩ := h.2.2 hn
  exact ⟨b, o, hp, fun i hi => (hb.cell (World.block_lt_of_cell? w _ (hc i hi))).trans (hc i hi)⟩

theorem Try.info5 : (Try.prog.info? 5).map (fun i => (i.zero, i.size, i.bytes)) = some (some (.int .u8 0), 1, 1) := by kernel_rfl

/-- How b1Clone ends: a slice of the same numbers; nothing old has turned. -/
def CloneEnd (n : Nat) (xs : List Int) (w : World) (e : Ending) (w' : World) : Prop := ∃ (p : Option Addr) (c : Nat), e = .returned (.slice p n c) ∧ n ≤ c ∧ Rd w' p n xs ∧ Below w.heap.size w w'
theorem cloneEnd_mk {n : Nat} {xs : List Int} {w : World} {e : Ending} {w' : World} (p : Option Addr) (c : Nat) (h1 : e = .returned (.slice p n c)) (h2 : n ≤ c) (h3 : Rd w' p n xs) (h4 : Below w.heap.size w w') : CloneEnd n xs w e w' := ⟨p, c, h1, h2, h3, h4⟩

/-- What the round of b1Clone holds: the first k cells are the source's. -/
structure Copied (B n k : Nat) (xs : List Int) (w wr : World) : Prop where
  own : ∃ L : List Value, wr.ownsRow B 5 1 (.slice (some ⟨B, 0, none⟩) n n) n L ∧ ∀ i, i < k → L[i]? = some (.int .u8 (xs.getD i 0))
  bel : Below B w wr

theorem Copied.cell {B n k : Nat} {xs : List Int} {w wr : World} (h : Copied B n k xs w wr) (j : Nat) (hj : j < n) : ∃ v, wr.cell? ⟨B, j, none⟩ = some v := by
  obtain ⟨L, hL, _⟩ := h.own
  have hl : L.length = n := by simpa using hL.1
  refine ⟨L[j]'(by omega), ?_⟩
  rw [hL.cellAt j (by omega), List.getElem?_eq_getElem]
theorem Copied.frozen {B n k : Nat} {xs : List Int} {w wr : World} (h : Copied B n k xs w wr) (j : Nat) : wr.frozen? ⟨B, j, none⟩ = false := by
  obtain ⟨L, hL, _⟩ := h.own
  exact hL.frozenAt j
theorem Copied.step {B n k : Nat} {xs : List Int} {w wr : World} (h : Copied B n k xs w wr) (hk : k < n) : Copied B n (k + 1) xs w (wr.setCell ⟨B, k, none⟩ (.int .u8 (xs.getD k 0))) := by
  obtain ⟨L, hL, hc⟩ := h.own
  have hl : L.length = n := by simpa using hL.1
  refine ⟨⟨L.set k (.int .u8 (xs.getD k 0)), (hL.stored k _).1, fun i hi => ?_⟩, h.bel.setCell (Nat.le_refl _) _⟩
  by_cases e : i = k
  · subst e; rw [List.getElem?_set_self (by omega)]
  · rw [List.getElem?_set_ne (by omega)]; exact hc i (by omega)
theorem Copied.rd {n : Nat} {xs : List Int} {p : Option Addr} {w0 w wr : World} {B : Nat} (h : Copied B n n xs w wr) (hr : Rd w0 p n xs) : Rd wr (some ⟨B, 0, none⟩) n xs := by
  refine ⟨hr.1, hr.2.1, fun _ => ⟨B, 0, rfl, fun i hi => ?_⟩⟩
  obtain ⟨L, hL, hc⟩ := h.own
  rw [Nat.zero_add, hL.cellAt i (by omega)]
  exact hc i hi

theorem clone_nil (n c : Nat) (xs : List Int) (w : World) (hc : n ≤ c) (h1 : Hid (Rd w none n xs)) :
    Calls Try.prog 8 #[.slice none n c] w fun e w' => CloneEnd n xs w e w' := by
  have hn : n = 0 := by
    rcases Nat.eq_zero_or_pos n with h | h
    · exact h
    · obtain ⟨b, o, hp, _⟩ := h1.out.2.2 h; cases hp
  subst hn
  have q22 : ∀ (w : World) (a : Option Addr) (n c n' c' : Nat), (binOp .eql 22 (.slice a n c) (.slice none n' c')).run Try.prog w = .ok (.bool a.isNone) w := fun w a n c n' c' => Lib.run_eql_slice_nil w _ _ a n c n' c' Try.underlying22
  go_enter Try.func8, Try.ntmps8
  go_wp2
  go_ret
  exact cloneEnd_mk none 0 rfl (Nat.le_refl _) h1.out (Below.refl _ _)

theorem clone_some (a : Addr) (n c : Nat) (xs : List Int) (w : World) (hn : n ≤ 1048576) (hc : n ≤ c) (h1 : Hid (Rd w (some a) n xs)) :
    Calls Try.prog 8 #[.slice (some a) n c] w fun e w' => CloneEnd n xs w e w' := by
  have q22 : ∀ (w : World) (a : Option Addr) (n c n' c' : Nat), (binOp .eql 22 (.slice a n c) (.slice none n' c')).run Try.prog w = .ok (.bool a.isNone) w := fun w a n c n' c' => Lib.run_eql_slice_nil w _ _ a n c n' c' Try.underlying22
  obtain ⟨i0, hi, hz0, hz1, hz2⟩ := info_parts Try.info5
  go_enter Try.func8, Try.ntmps8
  go_wp2_with (first
    | (at_make; refine wpList_make_full _ rfl (.tmp 8) (.tmp 8) 22 rfl w.heap.size 5 i0 (.int .u8 0) 1 Try.underlying22 hi hz0 hz1 .i64 .i64 _ _ n rfl rfl rfl rfl (by rw [hz2]; omega) (by unfold maxLen; omega) (Nat.le_refl _) ?_; intro w1 hown hgrow)
    | go_in)
  have HC : Hid (Copied w.heap.size n 0 xs w w1) := ⟨⟨_, hown, fun i hi => by omega⟩, (Below.refl _ _).grown hgrow (Nat.le_refl _) (fun k hk => by cases hk)⟩
  clear hown hgrow
  go_loopw [4] (fun t wr => ∃ k : Nat, k ≤ n ∧ t = .int .i64 k ∧ Hid (Copied w.heap.size n k xs w wr)) (fun t _ => n - (intOf t).toNat)
  case atStart => exact ⟨0, Nat.zero_le _, rfl, HC⟩
  case round =>
    obtain ⟨k, hk, rfl, HR⟩ := hrel
    by_cases hlt : k < n
    · obtain ⟨b, o, hp, hcell⟩ := h1.out.2.2 (by omega)
      simp only [Option.some.injEq] at hp
      subst hp
      have g1 : wr.cell? ⟨b, o + k, none⟩ = some (.int .u8 (xs.getD k 0)) := (HR.out.bel.cell (World.block_lt_of_cell? w _ (hcell k hlt))).trans (hcell k hlt)
      obtain ⟨v3, g2⟩ := HR.out.cell k hlt
      have g3 := HR.out.frozen k
      have hi1 : (k : Int) < (n : Int) := by omega
      clear hcell
      go_wp2
      go_roundw
      case rel => exact ⟨k + 1, by omega, by go_num, HR.out.step hlt⟩
      case measure => simp [intOf]; omega
    · obtain rfl : k = n := by omega
      go_wp2
      go_ret
      exact cloneEnd_mk _ _ rfl (Nat.le_refl _) (HR.out.rd h1.out) HR.out.bel

/-- b1Clone. -/
theorem clone_any (p : Option Addr) (n c : Nat) (xs : List Int) (w : World) (hn : n ≤ 1048576) (hc : n ≤ c) (h1 : Hid (Rd w p n xs)) :
    Calls Try.prog 8 #[.slice p n c] w fun e w' => CloneEnd n xs w e w' := by
  cases p with
  | none => exact clone_nil n c xs w hc h1
  | some a => exact clone_some a n c xs w hn hc h1

/-- How ZZPackIndexFind ends. -/
def FindEnd (s N : Nat) (xs ys : List Int) (w : World) (e : Ending) (w' : World) : Prop := ∃ P : Nat, e = .returned (.tuple #[.int .i64 (P : Int), .bool (decide (P < N) && (Pl.ent xs s P == ys))]) ∧ Below w.heap.size w w' ∧ Pl.Place xs s N ys P
theorem findEnd_mk {s N : Nat} {xs ys : List Int} {w : World} {e : Ending} {w' : World} (P : Nat) (h1 : e = .returned (.tuple #[.int .i64 (P : Int), .bool (decide (P < N) && (Pl.ent xs s P == ys))])) (h2 : Below w.heap.size w w') (h3 : Pl.Place xs s N ys P) : FindEnd s N xs ys w e w' := ⟨P, h1, h2, h3⟩

/-- ZZPackIndexFind. -/
theorem zzfind_any (n c s m d N : Nat) (st : Bool) (p p2 : Option Addr) (xs ys : List Int) (w : World)
    (hs : 1 ≤ s) (hn : n ≤ 1048576) (hc : n ≤ c) (hN : Hid (n / s = N)) (h1 : Hid (Rd w p n xs)) (h2 : Hid (Rd w p2 m ys)) (hasc : Hid (Pl.Asc st xs s N)) :
    Calls Try.prog 9 #[.slice p n c, .int .i64 (s : Int), .slice p2 m d] w fun e w' => FindEnd s N xs ys w e w' := by
  have hb : ∀ o : Obj, Below w.heap.size w (w.alloc o) := fun o => (Below.refl _ _).alloc (Nat.le_refl _) o
  have HB : Hid _ := hb
  clear hb
  go_enter Try.func9, Try.ntmps9
  go_wp2_with fail
  refine (find_any w.heap.size n c s m d N st p p2 xs ys _ (by simp) (by simp) hs hn hc hN (Rd.below (HB.out _) h1.out) (Rd.below (HB.out _) h2.out) hasc).mono ?_
  rintro e w' ⟨P, q, rfl, rfl, hp⟩
  have HP : Hid _ := hp
  clear hp
  go_wp2
  go_ret2
  exact findEnd_mk P rfl (below_drewN (HB.out _) _) HP.out

end Go.Proofs.Qxb6001053a
