/-
  Seat b6001053a: the contracts of the functions on both laws' roads: those that only read.
-/
import Derived.Test.Qxb6001053aRows
import Derived.Test.Qxb6001053aPlain
import Derived.WalkKit
import Derived.ProofKit
import Derived.Handy
import Derived.Deep.QuietTactic
import Derived.BigQuiet
import Derived.Lib.BytesEntry
import Derived.Lib.SlBytesRow
namespace Go.Proofs.Qxb6001053a
open Go.RowKit

/-- The slice at p holds the n numbers xs: where there is one, at an address without a spot; where there is none, whatever the address. -/
def Rd (w : World) (p : Option Addr) (n : Nat) (xs : List Int) : Prop :=
  xs.length = n ∧ (∀ x ∈ xs, 0 ≤ x ∧ x ≤ 255) ∧ (0 < n → ∃ b o, p = some ⟨b, o, none⟩ ∧ ∀ i, i < n → w.cell? ⟨b, o + i, none⟩ = some (.int .u8 (xs.getD i 0)))

theorem Rd.drewN {w : World} {p : Option Addr} {n : Nat} {xs : List Int} (h : Rd w p n xs) (q : Nat) : Rd (w.drewN q) p n xs := by
  refine ⟨h.1, h.2.1, fun hn => ?_⟩
  obtain ⟨b, o, hp, hc⟩ := h.2.2 hn
  exact ⟨b, o, hp, fun i hi => by simpa using hc i hi⟩

theorem Rd.ent {w : World} {p : Option Addr} {n s i : Nat} {xs : List Int} (h : Rd w p n xs) (hs : 1 ≤ s) (hi : (i + 1) * s ≤ n) :
    ∃ b o, p = some ⟨b, o, none⟩ ∧ Rd w (some ⟨b, o + i * s, none⟩) s (Pl.ent xs s i) := by
  have hm : (i + 1) * s = i * s + s := Nat.succ_mul i s
  obtain ⟨b, o, hp, hc⟩ := h.2.2 (by omega)
  refine ⟨b, o, hp, Pl.ent_length xs s i (by rw [h.1]; exact hi), fun x hx => h.2.1 x (List.mem_of_mem_drop (List.mem_of_mem_take hx)), fun _ => ⟨b, o + i * s, rfl, fun j hj => ?_⟩⟩
  rw [Pl.ent_getD xs s i j hj, Nat.add_assoc]
  exact hc _ (by omega)

theorem run_bytes {P : Program} {w : World} {p : Option Addr} {n c : Nat} {xs : List Int} (h : Rd w p n xs) :
    (Extern.Bytes.bytesOf (.slice p n c)).run P w = .ok ⟨(Lib.bytesOf xs).toArray⟩ w := by
  have he : ∀ l : List UInt8, (⟨ByteArray.empty.data ++ l.toArray⟩ : ByteArray) = ⟨l.toArray⟩ := by
    intro l
    apply ByteArray.ext
    show (#[] : Array UInt8) ++ l.toArray = l.toArray
    simp
  obtain ⟨hl, _, hc⟩ := h
  rcases Nat.eq_zero_or_pos n with hn | hn
  · subst hn
    obtain rfl : xs = [] := List.eq_nil_of_length_eq_zero hl
    cases p with
    | none => rfl
    | some a => rfl
  · obtain ⟨b, o, rfl, hcell⟩ := hc hn
    have := Lib.run_loadBytesX (P := P) w xs ⟨b, o, none⟩ .empty (fun j x hj => by
      have hjl : j < xs.length := (List.getElem?_eq_some_iff.1 hj).1
      have e : (⟨b, o, none⟩ : Addr).add j = ⟨b, o + j, none⟩ := by unfold Addr.add; split <;> simp_all
      rw [e, hcell j (by omega), List.getD_eq_getElem?_getD, hj]
      rfl)
    rw [he, hl] at this
    exact this

theorem byte_lt_iff {a b : Int} (ha : 0 ≤ a ∧ a ≤ 255) (hb : 0 ≤ b ∧ b ≤ 255) : (UInt8.ofNat a.toNat < UInt8.ofNat b.toNat) ↔ a < b := by
  rw [UInt8.lt_iff_toNat_lt]
  simp only [UInt8.toNat_ofNat']
  omega

theorem compare_eq : ∀ (xs ys : List Int), (∀ x ∈ xs, 0 ≤ x ∧ x ≤ 255) → (∀ y ∈ ys, 0 ≤ y ∧ y ≤ 255) → Lib.compareBytes (Lib.bytesOf xs) (Lib.bytesOf ys) = Pl.cmp xs ys
  | [], [], _, _ => rfl
  | [], _ :: _, _, _ => rfl
  | _ :: _, [], _, _ => rfl
  | a :: x, b :: y, hx, hy => by
    have ha := hx a List.mem_cons_self
    have hb := hy b List.mem_cons_self
    have ih := compare_eq x y (fun z hz => hx z (List.mem_cons_of_mem _ hz)) (fun z hz => hy z (List.mem_cons_of_mem _ hz))
    show (if UInt8.ofNat a.toNat < UInt8.ofNat b.toNat then (-1 : Int) else if UInt8.ofNat b.toNat < UInt8.ofNat a.toNat then 1 else Lib.compareBytes (Lib.bytesOf x) (Lib.bytesOf y)) = if a < b then -1 else if b < a then 1 else Pl.cmp x y
    rw [ih]
    simp only [byte_lt_iff ha hb, byte_lt_iff hb ha]

theorem run_compare {P : Program} {w : World} {p1 p2 : Option Addr} {n c m d : Nat} {xs ys : List Int} (h1 : Rd w p1 n xs) (h2 : Rd w p2 m ys) :
    (Extern.BytealgCompare.compare #[.slice p1 n c, .slice p2 m d]).run P w = .ok (.int .i64 (Pl.cmp xs ys)) w := by
  change Sem.run P (do pure (goInt (Extern.BytealgCompare.cmp (← Extern.Bytes.bytesOf (.slice p1 n c)) (← Extern.Bytes.bytesOf (.slice p2 m d))))) w = _
  simp only [Sem.run_bind, run_bytes h1, run_bytes h2, Sem.run_pure, Result.andThen]
  rw [Lib.cmp_eq]
  show Result.ok (Value.int .i64 (Lib.compareBytes (Lib.bytesOf xs) (Lib.bytesOf ys))) w = _
  rw [compare_eq xs ys h1.2.1 h2.2.1]

/-- bytes.Compare. -/
theorem compare_any (p1 p2 : Option Addr) (n c m d : Nat) (xs ys : List Int) (w : World) (h1 : Hid (Rd w p1 n xs)) (h2 : Hid (Rd w p2 m ys)) :
    Calls Try.prog 15 #[.slice p1 n c, .slice p2 m d] w fun e w' => e = .returned (.int .i64 (Pl.cmp xs ys)) ∧ w' = w := by
  go_enter Try.func15, Try.ntmps15
  go_wp2
  rw [run_callFunc_extern Try.func18 (by kernel_rfl) (by kernel_rfl) (by kernel_rfl) (e := Extern.BytealgCompare.compare) (by kernel_rfl), run_compare h1.out h2.out]
  simp only [Result.andThen]
  rw [Oper.upon_value]
  go_wp2
  go_ret
  exact ⟨rfl, rfl⟩

theorem run_string {P : Program} {w : World} {p : Option Addr} {n c : Nat} {xs : List Int} (h : Rd w p n xs) (src e dst : TypeId)
    (hs : P.underlying src = some (.slice e)) (he : P.underlying e = some (.int .u8)) (hd : P.underlying dst = some .string) :
    (convert src dst (.slice p n c)).run P w = .ok (.string (strOfNums xs)) w := by
  rcases Nat.eq_zero_or_pos n with hn | hn
  · subst hn
    obtain rfl : xs = [] := List.eq_nil_of_length_eq_zero h.1
    rw [run_convert_bytes_string w src dst e _ 0 c hs he hd]
    cases p <;> simp [Conv.bytesToString, loadCells]
    all_goals rfl
  · obtain ⟨b, o, rfl, hc⟩ := h.2.2 hn
    exact run_convert_bytes_arg (P := P) w src e hs he b o n c xs h.1 hc dst hd

theorem bytesOf_inj : ∀ (xs ys : List Int), (∀ x ∈ xs, 0 ≤ x ∧ x ≤ 255) → (∀ y ∈ ys, 0 ≤ y ∧ y ≤ 255) → Lib.bytesOf xs = Lib.bytesOf ys → xs = ys
  | [], [], _, _, _ => rfl
  | [], _ :: _, _, _, h => by simp [Lib.bytesOf] at h
  | _ :: _, [], _, _, h => by simp [Lib.bytesOf] at h
  | a :: x, b :: y, hx, hy, h => by
    have ha := hx a List.mem_cons_self
    have hb := hy b List.mem_cons_self
    simp only [Lib.bytesOf, List.map_cons, List.cons.injEq] at h
    have ih := bytesOf_inj x y (fun z hz => hx z (List.mem_cons_of_mem _ hz)) (fun z hz => hy z (List.mem_cons_of_mem _ hz)) h.2
    have h1 := congrArg UInt8.toNat h.1
    simp only [UInt8.toNat_ofNat'] at h1
    rw [ih, show a = b by omega]

theorem eq_bytes {xs ys : List Int} (hx : ∀ x ∈ xs, 0 ≤ x ∧ x ≤ 255) (hy : ∀ y ∈ ys, 0 ≤ y ∧ y ≤ 255) : ((strOfNums xs).toList == (strOfNums ys).toList) = (xs == ys) := by
  rw [Lib.strOfNums_toList, Lib.strOfNums_toList, Bool.eq_iff_iff]
  simp only [beq_iff_eq]
  exact ⟨bytesOf_inj xs ys hx hy, fun h => by rw [h]⟩

theorem retb {a b : Bool} (h : a = b) : Ending.returned (.bool a) = .returned (.bool b) := by rw [h]
theorem reti {a b : Int} (h : a = b) : Ending.returned (.int .i64 a) = .returned (.int .i64 b) := by rw [h]

/-- bytes.Equal. -/
theorem equal_any (p1 p2 : Option Addr) (n c m d : Nat) (xs ys : List Int) (w : World) (h1 : Hid (Rd w p1 n xs)) (h2 : Hid (Rd w p2 m ys)) :
    Calls Try.prog 17 #[.slice p1 n c, .slice p2 m d] w fun e w' => e = .returned (.bool (xs == ys)) ∧ w' = w := by
  have g1 := run_string (P := Try.prog) (c := c) h1.out 22 5 9 Try.underlying22 Try.underlying5 Try.underlying9
  have g2 := run_string (P := Try.prog) (c := d) h2.out 22 5 9 Try.underlying22 Try.underlying5 Try.underlying9
  go_enter Try.func17, Try.ntmps17
  go_wp2
  go_ret
  exact ⟨retb (eq_bytes h1.out.2.1 h2.out.2.1), rfl⟩

/-- b1Compare. -/
theorem b1Compare_any (p1 p2 : Option Addr) (n c m d : Nat) (xs ys : List Int) (w : World) (h1 : Hid (Rd w p1 n xs)) (h2 : Hid (Rd w p2 m ys)) (hn : n ≤ 1048576) (hm : m ≤ 1048576) :
    Calls Try.prog 10 #[.slice p1 n c, .slice p2 m d] w fun e w' => e = .returned (.int .i64 (Pl.cmp xs ys)) ∧ ∃ q, w' = w.drewN q := by
  by_cases hmn : m < n
  · go_enter Try.func10, Try.ntmps10
    go_wp2
    go_loopw [6] (fun i wr => ∃ k q : Nat, k ≤ m ∧ i = .int .i64 k ∧ wr = w.drewN q ∧ xs.take k = ys.take k) (fun i _ => m - (intOf i).toNat)
    case atStart => exact ⟨0, 0, Nat.zero_le _, rfl, rfl, by simp⟩
    case round =>
      obtain ⟨k, q, hk, rfl, rfl, heq⟩ := hrel
      have HE : Hid _ := heq
      clear heq
      by_cases hlt : k < m
      · obtain ⟨b1, o1, hp1, hc1⟩ := h1.out.2.2 (by omega)
        obtain ⟨b2, o2, hp2, hc2⟩ := h2.out.2.2 (by omega)
        subst hp1 hp2
        have hl1 := h1.out.1
        have hl2 := h2.out.1
        have hx : k < xs.length := by omega
        have hy : k < ys.length := by omega
        have g1 : w.cell? ⟨b1, o1 + k, none⟩ = some (.int .u8 xs[k]) := by rw [hc1 k (by omega)]; simp [hx]
        have g2 : w.cell? ⟨b2, o2 + k, none⟩ = some (.int .u8 ys[k]) := by rw [hc2 k (by omega)]; simp [hy]
        clear hc1 hc2 hl1 hl2
        have hi1 : (k : Int) < (n : Int) := by omega
        have hi2 : (k : Int) < (m : Int) := by omega
        go_wp2
        go_quiet (fail)
        go_wp2
        · have ht : xs[k] < ys[k] := by assumption
          go_ret
          exact ⟨reti (by rw [Pl.cmp_at hx hy HE.out, if_pos ht]), _, by first | rw [World.drewN_drewN, World.drewN_drewN] | rw [World.drewN_drewN] | rfl⟩
        · go_quiet (fail)
          go_wp2
          · have ht' : ys[k] < xs[k] := by assumption
            go_ret
            exact ⟨reti (by rw [Pl.cmp_at hx hy HE.out, if_neg (show ¬ xs[k] < ys[k] by omega), if_pos ht']), _, by first | rw [World.drewN_drewN, World.drewN_drewN] | rw [World.drewN_drewN] | rfl⟩
          · go_roundw
            case rel => exact ⟨k + 1, _, by omega, by go_num, by first | rw [World.drewN_drewN, World.drewN_drewN] | rw [World.drewN_drewN] | rfl, Pl.take_next hx hy HE.out (by omega) (by omega)⟩
            case measure => simp [intOf]; omega
      · obtain rfl : k = m := by omega
        have hl1 := h1.out.1
        have hl2 := h2.out.1
        go_wp2
        go_ret
        exact ⟨reti (by rw [Pl.cmp_long (by rw [hl2]; exact HE.out) (by omega)]), _, rfl⟩
  · go_enter Try.func10, Try.ntmps10
    go_wp2
    go_loopw [6] (fun i wr => ∃ k q : Nat, k ≤ n ∧ i = .int .i64 k ∧ wr = w.drewN q ∧ xs.take k = ys.take k) (fun i _ => n - (intOf i).toNat)
    case atStart => exact ⟨0, 0, Nat.zero_le _, rfl, rfl, by simp⟩
    case round =>
      obtain ⟨k, q, hk, rfl, rfl, heq⟩ := hrel
      have HE : Hid _ := heq
      clear heq
      by_cases hlt : k < n
      · obtain ⟨b1, o1, hp1, hc1⟩ := h1.out.2.2 (by omega)
        obtain ⟨b2, o2, hp2, hc2⟩ := h2.out.2.2 (by omega)
        subst hp1 hp2
        have hl1 := h1.out.1
        have hl2 := h2.out.1
        have hx : k < xs.length := by omega
        have hy : k < ys.length := by omega
        have g1 : w.cell? ⟨b1, o1 + k, none⟩ = some (.int .u8 xs[k]) := by rw [hc1 k (by omega)]; simp [hx]
        have g2 : w.cell? ⟨b2, o2 + k, none⟩ = some (.int .u8 ys[k]) := by rw [hc2 k (by omega)]; simp [hy]
        clear hc1 hc2 hl1 hl2
        have hi1 : (k : Int) < (n : Int) := by omega
        have hi2 : (k : Int) < (m : Int) := by omega
        go_wp2
        go_quiet (fail)
        go_wp2
        · have ht : xs[k] < ys[k] := by assumption
          go_ret
          exact ⟨reti (by rw [Pl.cmp_at hx hy HE.out, if_pos ht]), _, by first | rw [World.drewN_drewN, World.drewN_drewN] | rw [World.drewN_drewN] | rfl⟩
        · go_quiet (fail)
          go_wp2
          · have ht' : ys[k] < xs[k] := by assumption
            go_ret
            exact ⟨reti (by rw [Pl.cmp_at hx hy HE.out, if_neg (show ¬ xs[k] < ys[k] by omega), if_pos ht']), _, by first | rw [World.drewN_drewN, World.drewN_drewN] | rw [World.drewN_drewN] | rfl⟩
          · go_roundw
            case rel => exact ⟨k + 1, _, by omega, by go_num, by first | rw [World.drewN_drewN, World.drewN_drewN] | rw [World.drewN_drewN] | rfl, Pl.take_next hx hy HE.out (by omega) (by omega)⟩
            case measure => simp [intOf]; omega
      · obtain rfl : k = n := by omega
        have hl1 := h1.out.1
        have hl2 := h2.out.1
        by_cases hnm : k < m
        · go_wp2
          go_ret
          exact ⟨reti (by rw [Pl.cmp_short (by rw [hl1]; exact HE.out) (by omega)]), _, rfl⟩
        · go_wp2
          go_ret
          exact ⟨reti (by rw [Pl.cmp_same (by rw [hl1]; exact HE.out) (by omega)]), _, rfl⟩

end Go.Proofs.Qxb6001053a
