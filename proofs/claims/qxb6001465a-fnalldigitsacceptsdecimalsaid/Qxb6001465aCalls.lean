/-
  Seat b6001465a: the contracts of the functions on the law's road.
-/
import Derived.Test.Qxb6001465aRows
import Derived.WalkKit
import Derived.ProofKit
import Derived.Handy
import Derived.WalkSmall
import Derived.Lib.ConvBytes
import Derived.Lib.Bytes
namespace Go.Proofs.Qxb6001465a
open Go.RowKit

theorem below_bytesWorld (w : World) (e : TypeId) (s : ByteArray) : Below w.heap.size w (Lib.bytesWorld w e s) :=
  ⟨rfl, rfl, rfl, by rw [Lib.bytesWorld_size]; omega, fun k hk => Lib.bytesWorld_at_old w e s k hk⟩

/-- format1.allDigits at a text of digits. -/
theorem allDigits_yes (s : ByteArray) (w : World) (hs : s.size ≤ 1048576) (h0 : 0 < s.size) (hd : Hid (∀ k (h : k < s.size), 48 ≤ (s[k]).toNat ∧ (s[k]).toNat ≤ 57)) :
    Calls Try.prog 10 #[.string s] w fun e w' => e = .returned (.bool true) ∧ Below w.heap.size w w' := by
  have hcv := Lib.run_convert_string_bytes (P := Try.prog) w 9 25 5 s (u := .string) Try.underlying9 Try.underlying25 Try.underlying5
  have hcell : ∀ k (h : k < s.size), (Lib.bytesWorld w 5 s).cell? ⟨w.heap.size, k, none⟩ = some (.int .u8 ((s[k]).toNat : Int)) := by
    intro k h
    rw [Lib.bytesWorld_cell w 5 s k h]
    have e : s.data.toList.getD k 0 = s[k] := by
      rw [List.getD_eq_getElem?_getD, List.getElem?_eq_getElem (by simpa using h)]
      rfl
    rw [e]
  have HB : Hid (Below w.heap.size w (Lib.bytesWorld w 5 s)) := below_bytesWorld w 5 s
  generalize Lib.bytesWorld w 5 s = w1 at hcv hcell HB
  generalize Go.grownCap w s.size 0 5 = cp at hcv
  have HC : Hid _ := hcell
  clear hcell
  have hne : s.toList.isEmpty = false := by
    rw [Lib.toList_data, List.isEmpty_eq_false_iff_exists_mem]
    exact ⟨s.data.toList[0]'(by simpa using h0), List.getElem_mem _⟩
  go_enter Try.func10, Try.ntmps10
  go_wp2
  go_loop [10] (fun i => ∃ k : Nat, k ≤ s.size ∧ i = .int .i64 k) (fun i => s.size - (intOf i).toNat)
  case atStart => exact ⟨0, Nat.zero_le _, rfl⟩
  case round =>
    obtain ⟨k, hk, rfl⟩ := hrel
    by_cases hlt : k < s.size
    · have g1 := HC.out k hlt
      have d1 : 48 ≤ (s[k]).toNat := (hd.out k hlt).1
      have d2 : (s[k]).toNat ≤ 57 := (hd.out k hlt).2
      have hi1 : (k : Int) < (s.size : Int) := by omega
      go_wp2
      go_round
      case rel => exact ⟨k + 1, by omega, by go_num⟩
      case measure => simp [intOf]; omega
    · go_wp2
      go_ret
      exact ⟨rfl, HB.out⟩

/-- format1.ZZallDigits at a text of digits. -/
theorem zzallDigits_yes (s : ByteArray) (w : World) (hs : s.size ≤ 1048576) (h0 : 0 < s.size) (hd : Hid (∀ k (h : k < s.size), 48 ≤ (s[k]).toNat ∧ (s[k]).toNat ≤ 57)) :
    Calls Try.prog 7 #[.string s] w fun e w' => e = .returned (.bool true) ∧ Below w.heap.size w w' := by
  go_enter Try.func7, Try.ntmps7
  go_wp2_with fail
  refine (allDigits_yes s w hs h0 hd).mono ?_
  rintro e w1 ⟨rfl, hb⟩
  have HB : Hid _ := hb
  clear hb
  go_wp2
  go_ret
  exact ⟨rfl, HB.out⟩

theorem Try.info5 : (Try.prog.info? 5).map (fun i => (i.zero, i.size, i.bytes)) = some (some (.int .u8 0), 1, 1) := by kernel_rfl

/-- The slice at block g, k of cap, is the call's own and holds digits. -/
def OwnDig (w : World) (B g k cap : Nat) : Prop := ∃ xs : List Int, (∀ x ∈ xs, 48 ≤ x ∧ x ≤ 57) ∧ w.ownsRow B 5 1 (.slice (some ⟨g, 0, none⟩) k cap) k (xs.map (Value.int .u8))

/-- The array tmp at block T: 20 cells that may be written; from p on digits. -/
structure Tmp (T p : Nat) (w wr : World) : Prop where
  bel : Below T w wr
  size : T < wr.heap.size
  cells : ∀ j, j < 20 → ∃ v, wr.cell? ⟨T, j, none⟩ = some v
  free : ∀ j, j < 20 → wr.frozen? ⟨T, j, none⟩ = false
  dig : ∀ j, p ≤ j → j < 20 → ∃ d : Int, 48 ≤ d ∧ d ≤ 57 ∧ wr.cell? ⟨T, j, none⟩ = some (.int .u8 d)

/-- How zzAppendDecimal ends. -/
def AppEnd (B g cap : Nat) (w : World) (e : Ending) (w' : World) : Prop := ∃ k, e = .returned (.slice (some ⟨g, 0, none⟩) k cap) ∧ 1 ≤ k ∧ OwnDig w' B g k cap ∧ Below B w w'
theorem appEnd_mk {B g cap : Nat} {w : World} {e : Ending} {w' : World} (k : Nat) (h1 : e = .returned (.slice (some ⟨g, 0, none⟩) k cap)) (h2 : 1 ≤ k) (h3 : OwnDig w' B g k cap) (h4 : Below B w w') : AppEnd B g cap w e w' := ⟨k, h1, h2, h3, h4⟩

theorem own_base {w : World} {B g k cap : Nat} {xs : List Value} (h : w.ownsRow B 5 1 (.slice (some ⟨g, 0, none⟩) k cap) k xs) : B ≤ g ∧ g < w.heap.size := by
  rcases h.2 with ⟨h', _⟩ | ⟨g', cap', cur, h', hb, hg, _⟩
  · simp at h'
  · simp only [Value.slice.injEq, Option.some.injEq, Addr.mk.injEq, and_true, true_and] at h'
    obtain ⟨rfl, rfl⟩ := h'
    refine ⟨hb, ?_⟩
    rcases Nat.lt_or_ge g w.heap.size with h1 | h1
    · exact h1
    · rw [Array.getElem?_eq_none h1] at hg; cases hg
theorem own_next {w1 : World} {B g k cap : Nat} {xs : List Int} {d : Int} (hxs : ∀ x ∈ xs, 48 ≤ x ∧ x ≤ 57) (hd : 48 ≤ d ∧ d ≤ 57) (h : w1.ownsRow B 5 1 (.slice (some ⟨g, 0, none⟩) (k + 1) cap) (k + 1) (xs.map (Value.int .u8) ++ [.int .u8 d])) : OwnDig w1 B g (k + 1) cap := by
  refine ⟨xs ++ [d], fun x hx => ?_, by simpa using h⟩
  rcases List.mem_append.1 hx with hx | hx
  · exact hxs x hx
  · simp only [List.mem_singleton] at hx; subst hx; exact hd
theorem one_new (w : World) (v : Value) (t : TypeId) : ∀ (j : Nat) (u : Value), [v][j]? = some u → (w.alloc (.cells #[v] t)).cell? ((⟨w.heap.size, 0, none⟩ : Addr).add j) = some u := by
  intro j u hj
  match j, hj with
  | 0, hj => simp at hj; subst hj; simp [Addr.add]
theorem one_cell (d : Int) : ∀ u ∈ [Value.int .u8 d], u.oneCell' = true := by
  intro u hu; simp at hu; subst hu; rfl

theorem dec_zero (B g k cap : Nat) (w : World) (hcap : k + 20 ≤ cap) (hB : B ≤ w.heap.size) (ho : Hid (OwnDig w B g k cap)) :
    Calls Try.prog 9 #[.slice (some ⟨g, 0, none⟩) k cap, .int .u64 0] w fun e w' => AppEnd B g cap w e w' := by
  obtain ⟨i0, hi, hz0, hz1, hz2⟩ := info_parts Try.info5
  obtain ⟨xs, hxs, hown⟩ := ho
  have HX : Hid _ := hxs
  clear hxs
  go_enter Try.func9, Try.ntmps9
  go_wp2_with (first
    | (at_builtin; refine wpList_append_fits _ rfl (.tmp 9) (.tmp 10) 25 rfl B 5 i0 1 Try.underlying25 hi hz1 g k cap _ rfl (hown.alloc _) ⟨w.heap.size, 0, none⟩ 1 1 [.int .u8 48] rfl rfl (one_new _ _ _) (one_cell _) (by omega) ?_; intro w1 hown1 hgrow)
    | go_in)
  have hb := own_base hown
  go_ret
  exact appEnd_mk (k + 1) rfl (by omega) (own_next HX.out (by omega) hown1) (((Below.refl _ _).alloc hB _).grown hgrow (by simp; omega) (fun j hj => by cases hj; exact hb.1))

/-- What a digit costs: the number's tens. -/
theorem pow_step {p : Nat} {m : Int} (h : m < ((10 ^ (p + 1) : Nat) : Int)) : m / 10 < ((10 ^ p : Nat) : Int) := by
  have e : 10 ^ (p + 1) = 10 ^ p * 10 := Nat.pow_succ _ _
  omega

theorem tmp_start (w : World) (cs : Array Value) (t : TypeId) (h : cs.size = 20) : Tmp w.heap.size 20 w (w.alloc (.cells cs t)) := by
  refine ⟨(Below.refl _ _).alloc (Nat.le_refl _) _, by simp, fun j hj => ⟨cs[j], ?_⟩, fun j hj => World.frozen?_alloc_at cs t _ j rfl, fun j h1 h2 => by omega⟩
  rw [World.cell?_alloc_at cs t _ j rfl, Array.getElem?_eq_getElem]
theorem Tmp.store {T p : Nat} {w wr : World} {d : Int} (h : Tmp T (p + 1) w wr) (hp : p < 20) (hd : 48 ≤ d ∧ d ≤ 57) : Tmp T p w (wr.setCell ⟨T, p, none⟩ (.int .u8 d)) := by
  obtain ⟨v, hv⟩ := h.cells p hp
  have hs := World.cell?_setCell_same wr ⟨T, p, none⟩ (.int .u8 d) hv
  have ho : ∀ j, j ≠ p → (wr.setCell ⟨T, p, none⟩ (.int .u8 d)).cell? ⟨T, j, none⟩ = wr.cell? ⟨T, j, none⟩ := fun j hj => World.cell?_setCell_other wr _ _ _ (by intro e; simp only [Addr.mk.injEq] at e; omega)
  refine ⟨h.bel.setCell (Nat.le_refl _) _, by simpa using h.size, fun j hj => ?_, fun j hj => by simpa using h.free j hj, fun j h1 h2 => ?_⟩
  · by_cases e : j = p
    · subst e; exact ⟨_, hs⟩
    · obtain ⟨u, hu⟩ := h.cells j hj
      exact ⟨u, by rw [ho j e]; exact hu⟩
  · by_cases e : j = p
    · subst e; exact ⟨d, hd.1, hd.2, hs⟩
    · obtain ⟨u, h3, h4, hu⟩ := h.dig j (by omega) h2
      exact ⟨u, h3, h4, by rw [ho j e]; exact hu⟩

/-- What the second loop holds. -/
structure Two (B g k cap T p : Nat) (w wr : World) : Prop where
  own : OwnDig wr B g k cap
  bel : Below B w wr
  base : B ≤ wr.heap.size
  size : T < wr.heap.size
  gt : g < T
  dig : ∀ j, p ≤ j → j < 20 → ∃ d : Int, 48 ≤ d ∧ d ≤ 57 ∧ wr.cell? ⟨T, j, none⟩ = some (.int .u8 d)

theorem two_start {B g k cap p : Nat} {w wr : World} (h : Tmp w.heap.size p w wr) (hB : B ≤ w.heap.size) (ho : OwnDig w B g k cap) : Two B g k cap w.heap.size p w wr := by
  obtain ⟨xs, hxs, hown⟩ := ho
  have hb := own_base hown
  refine ⟨⟨xs, hxs, hown.1, ?_⟩, h.bel.mono hB, by have := h.size; omega, h.size, hb.2, h.dig⟩
  rcases hown.2 with ⟨h', _⟩ | ⟨g', cap', cur, h', h1, h2, h3⟩
  · simp at h'
  · refine .inr ⟨g', cap', cur, h', h1, ?_, h3⟩
    simp only [Value.slice.injEq, Option.some.injEq, Addr.mk.injEq, and_true, true_and] at h'
    obtain ⟨rfl, rfl⟩ := h'
    rw [h.bel.block _ hb.2]; exact h2
theorem two_step {B g k cap T p : Nat} {w wr w1 : World} {xs : List Int} {d : Int} {o : Obj} (h : Two B g k cap T p w wr) (hxs : ∀ x ∈ xs, 48 ≤ x ∧ x ≤ 57) (hd : 48 ≤ d ∧ d ≤ 57)
    (h1 : w1.ownsRow B 5 1 (.slice (some ⟨g, 0, none⟩) (k + 1) cap) (k + 1) (xs.map (Value.int .u8) ++ [.int .u8 d])) (hg : (wr.alloc o).grownBy w1 (some g)) : Two B g (k + 1) cap T (p + 1) w w1 := by
  have hsz : (wr.alloc o).heap.size = wr.heap.size + 1 := by simp
  have hle := hg.size
  have hz := h.size
  have hgt := h.gt
  have hbs := h.base
  have hb := own_base h1
  refine ⟨own_next hxs hd h1, (h.bel.alloc hbs _).grown hg (by omega) (fun j hj => by cases hj; exact hb.1), by omega, by omega, hgt, fun j h2 h3 => ?_⟩
  obtain ⟨u, h4, h5, hu⟩ := h.dig j (by omega) h3
  refine ⟨u, h4, h5, ?_⟩
  have e1 : w1.heap[T]? = (wr.alloc o).heap[T]? := hg.block T (by omega) (fun e => by cases e; omega)
  have e2 : (wr.alloc o).heap[T]? = wr.heap[T]? := Below.heap_alloc wr o T hz
  rw [← hu]
  exact World.cell?_of_block (w := wr) (e1.trans e2)

theorem dec_pos (B g k cap : Nat) (n : Int) (w : World) (hn0 : 0 < n) (hn1 : n ≤ 18446744073709551615) (hcap : k + 20 ≤ cap) (hB : B ≤ w.heap.size) (ho : Hid (OwnDig w B g k cap)) :
    Calls Try.prog 9 #[.slice (some ⟨g, 0, none⟩) k cap, .int .u64 n] w fun e w' => AppEnd B g cap w e w' := by
  have hne : (n == 0) = false := by rw [beq_eq_false_iff_ne]; omega
  obtain ⟨i0, hi, hz0, hz1, hz2⟩ := info_parts Try.info5
  go_enter Try.func9, Try.ntmps9
  go_wp2
  go_loopw [1, 6] (fun tn tp wr => ∃ (m : Int) (p : Nat), p ≤ 20 ∧ tn = .int .u64 m ∧ tp = .int .i64 p ∧ 0 ≤ m ∧ m ≤ 18446744073709551615 ∧ Hid (m < ((10 ^ p : Nat) : Int)) ∧ (p < 20 ∨ 0 < m) ∧ Hid (Tmp w.heap.size p w wr)) (fun _ tp _ => (intOf tp).toNat)
  case atStart => exact ⟨n, 20, Nat.le_refl _, rfl, rfl, by omega, hn1, show n < ((10 ^ 20 : Nat) : Int) by omega, .inr hn0, tmp_start w _ _ rfl⟩
  case round =>
    obtain ⟨m, p, hp, rfl, rfl, hm0, hm1, HM, hpm, HT⟩ := hrel
    by_cases hpos : 0 < m
    · obtain ⟨p', rfl⟩ : ∃ p', p = p' + 1 := by
        cases p with
        | zero => have := HM.out; simp at this; omega
        | succ p' => exact ⟨p', rfl⟩
      clear hpm
      obtain ⟨v3, g2⟩ := HT.out.cells p' (by omega)
      have g3 := HT.out.free p' (by omega)
      have hmod : 0 ≤ m % 10 ∧ m % 10 ≤ 9 := by omega
      go_wp2
      go_roundw
      case rel => exact ⟨m / 10, p', by omega, rfl, rfl, by omega, by omega, pow_step HM.out, .inl (by omega), HT.out.store (by omega) (by omega)⟩
      case measure => simp [intOf]
    · have HW : Hid (Two B g k cap w.heap.size p w wr) := two_start HT.out hB ho.out
      have hp20 : p < 20 := by omega
      clear HT HM hpm
      go_wp2
      obtain ⟨wo, rfl⟩ : ∃ wo : World, wo = wr := ⟨_, rfl⟩
      go_loopw [0, 6] (fun td tp wr => ∃ k' p' : Nat, p' ≤ 20 ∧ td = .slice (some ⟨g, 0, none⟩) k' cap ∧ tp = .int .i64 p' ∧ k' + (20 - p') ≤ cap ∧ (p' < 20 ∨ 1 ≤ k') ∧ Hid (Two B g k' cap w.heap.size p' w wr)) (fun _ tp _ => 20 - (intOf tp).toNat)
      case atStart => exact ⟨k, p, hp, rfl, rfl, by omega, .inl hp20, HW⟩
      case round =>
        clear HW
        obtain ⟨k', p', hp', rfl, rfl, hkc, hpk, HW⟩ := hrel
        by_cases hlt : p' < 20
        · obtain ⟨d, hd1, hd2, g1⟩ := HW.out.dig p' (Nat.le_refl _) hlt
          obtain ⟨xs, hxs, hown⟩ := HW.out.own
          have HX : Hid _ := hxs
          clear hxs
          have hsz := HW.out.size
          go_wp2_with (first
            | (at_builtin; refine wpList_append_fits _ rfl (.tmp 26) (.tmp 30) 25 rfl B 5 i0 1 Try.underlying25 hi hz1 g k' cap _ rfl (hown.alloc _) ⟨wr.heap.size, 0, none⟩ 1 1 [.int .u8 d] rfl rfl (one_new _ _ _) (one_cell _) (by omega) ?_; intro w1 hown1 hgrow)
            | go_in)
          have HN : Hid _ := two_step HW.out HX.out ⟨hd1, hd2⟩ hown1 hgrow
          clear hown1 hgrow hown
          go_roundw
          case rel => exact ⟨k' + 1, p' + 1, by omega, rfl, by go_num, by omega, .inr (by omega), HN⟩
          case measure => simp [intOf]; omega
        · go_wp2
          go_ret
          exact appEnd_mk k' rfl (by omega) HW.out.own HW.out.bel

/-- zzAppendDecimal. -/
theorem dec_any (B g k cap : Nat) (n : Int) (w : World) (hn0 : 0 ≤ n) (hn1 : n ≤ 18446744073709551615) (hcap : k + 20 ≤ cap) (hB : B ≤ w.heap.size) (ho : Hid (OwnDig w B g k cap)) :
    Calls Try.prog 9 #[.slice (some ⟨g, 0, none⟩) k cap, .int .u64 n] w fun e w' => AppEnd B g cap w e w' := by
  by_cases h : n = 0
  · subst h
    exact dec_zero B g k cap w hcap hB ho
  · exact dec_pos B g k cap n w (by omega) hn1 hcap hB ho

/-- 'string(buf)' of a row of digits. -/
theorem str_of {w : World} {B g k cap : Nat} (h : OwnDig w B g k cap) :
    ∃ s : ByteArray, (convert 25 9 (.slice (some ⟨g, 0, none⟩) k cap)).run Try.prog w = .ok (.string s) w ∧ s.size = k ∧ ∀ j (hj : j < s.size), 48 ≤ (s[j]).toNat ∧ (s[j]).toNat ≤ 57 := by
  obtain ⟨xs, hxs, hown⟩ := h
  have hl : xs.length = k := by simpa using hown.1
  refine ⟨strOfNums xs, ?_, by rw [strOfNums_size, hl], fun j hj => ?_⟩
  · refine run_convert_bytes_arg (P := Try.prog) w 25 5 Try.underlying25 Try.underlying5 g 0 k cap xs hl (fun i hi => ?_) 9 Try.underlying9
    rw [Nat.zero_add, hown.cellAt i (by omega), List.getElem?_map, List.getElem?_eq_getElem (by omega)]
    simp [List.getD, List.getElem?_eq_getElem (show i < xs.length by omega)]
  · have hj' : j < xs.length := by rwa [strOfNums_size] at hj
    have e1 : (strOfNums xs)[j] = UInt8.ofNat (xs[j]).toNat := by
      show (strOfNums xs).data[j] = _
      simp [strOfNums]
    have hm := hxs xs[j] (List.getElem_mem hj')
    rw [e1, UInt8.toNat_ofNat']
    omega

end Go.Proofs.Qxb6001465a
