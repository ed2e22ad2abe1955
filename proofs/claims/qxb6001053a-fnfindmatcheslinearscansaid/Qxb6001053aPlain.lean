/-
  The plain mathematics of seat b6001053a: the order of byte runs, sorted entries, a place found by halving; no Go in sight.
-/
namespace Go.Proofs.Qxb6001053a.Pl

/-- Lexicographic order of two runs: -1, 0 or 1. -/
def cmp : List Int → List Int → Int
  | [], [] => 0
  | [], _ :: _ => -1
  | _ :: _, [] => 1
  | a :: x, b :: y => if a < b then -1 else if b < a then 1 else cmp x y

theorem cmp_range : ∀ x y : List Int, cmp x y = -1 ∨ cmp x y = 0 ∨ cmp x y = 1
  | [], [] => .inr (.inl rfl)
  | [], _ :: _ => .inl rfl
  | _ :: _, [] => .inr (.inr rfl)
  | a :: x, b :: y => by
    unfold cmp
    split
    · exact .inl rfl
    · split
      · exact .inr (.inr rfl)
      · exact cmp_range x y

theorem cmp_self : ∀ x : List Int, cmp x x = 0
  | [] => rfl
  | a :: x => by unfold cmp; rw [if_neg (Int.lt_irrefl a), if_neg (Int.lt_irrefl a)]; exact cmp_self x

theorem cmp_eq : ∀ {x y : List Int}, cmp x y = 0 → x = y
  | [], [], _ => rfl
  | [], _ :: _, h => by simp [cmp] at h
  | _ :: _, [], h => by simp [cmp] at h
  | a :: x, b :: y, h => by
    unfold cmp at h
    split at h
    · simp at h
    · split at h
      · simp at h
      · obtain rfl : a = b := by omega
        rw [cmp_eq h]

theorem cmp_zero (x y : List Int) : (cmp x y == 0) = (x == y) := by
  rw [Bool.eq_iff_iff]
  simp only [beq_iff_eq]
  exact ⟨cmp_eq, fun h => by rw [h]; exact cmp_self _⟩

/-- At most, then below: below. -/
theorem cmp_le_lt : ∀ {x y z : List Int}, cmp x y ≤ 0 → cmp y z < 0 → cmp x z < 0
  | [], [], [], _, h => by simp [cmp] at h
  | [], [], _ :: _, _, _ => by simp [cmp]
  | [], _ :: _, [], _, h => by simp [cmp] at h
  | [], _ :: _, _ :: _, _, _ => by simp [cmp]
  | _ :: _, [], _, h, _ => by simp [cmp] at h
  | _ :: _, _ :: _, [], _, h => by simp [cmp] at h
  | a :: x, b :: y, c :: z, h1, h2 => by
    unfold cmp at h1 h2 ⊢
    by_cases ab : a < b
    · by_cases bc : b < c
      · rw [if_pos (by omega)]; decide
      · rw [if_neg bc] at h2
        by_cases cb : c < b
        · rw [if_pos cb] at h2; omega
        · rw [if_pos (by omega)]; decide
    · rw [if_neg ab] at h1
      by_cases ba : b < a
      · rw [if_pos ba] at h1; omega
      · rw [if_neg ba] at h1
        by_cases bc : b < c
        · rw [if_pos (by omega)]; decide
        · rw [if_neg bc] at h2
          by_cases cb : c < b
          · rw [if_pos cb] at h2; omega
          · rw [if_neg cb] at h2
            rw [if_neg (by omega), if_neg (by omega)]
            exact cmp_le_lt h1 h2

theorem cmp_le_trans {x y z : List Int} (h1 : cmp x y ≤ 0) (h2 : cmp y z ≤ 0) : cmp x z ≤ 0 := by
  rcases cmp_range y z with h | h | h
  · have := cmp_le_lt h1 (show cmp y z < 0 by omega); omega
  · rw [← cmp_eq h]; exact h1
  · omega

/-! ### Entries -/
/-- The i-th entry of s numbers. -/
def ent (xs : List Int) (s i : Nat) : List Int := (xs.drop (i * s)).take s

theorem ent_length (xs : List Int) (s i : Nat) (h : (i + 1) * s ≤ xs.length) : (ent xs s i).length = s := by
  have : (i + 1) * s = i * s + s := Nat.succ_mul i s
  simp [ent]
  omega

theorem ent_getD (xs : List Int) (s i j : Nat) (h : j < s) : (ent xs s i).getD j 0 = xs.getD (i * s + j) 0 := by
  simp [ent, List.getD, List.getElem?_drop, h]

theorem mul_le_of_lt_div {i n s : Nat} (h : i < n / s) : (i + 1) * s ≤ n := by
  have h1 : (i + 1) * s ≤ (n / s) * s := Nat.mul_le_mul_right s h
  have h2 : (n / s) * s ≤ n := Nat.div_mul_le_self n s
  omega

/-- Neighbours in order (strictly, if 'st'). -/
def Asc (st : Bool) (xs : List Int) (s k : Nat) : Prop := ∀ i, i + 1 < k → cmp (ent xs s i) (ent xs s (i + 1)) ≤ 0 ∧ (st = true → cmp (ent xs s i) (ent xs s (i + 1)) < 0)

theorem Asc.le {st : Bool} {xs : List Int} {s n : Nat} (h : Asc st xs s n) : ∀ (d i : Nat), i + d < n → cmp (ent xs s i) (ent xs s (i + d)) ≤ 0
  | 0, i, _ => by rw [Nat.add_zero, cmp_self]; exact Int.le_refl _
  | d + 1, i, hd => cmp_le_trans (Asc.le h d i (by omega)) (h (i + d) (by omega)).1

theorem Asc.lt {xs : List Int} {s n : Nat} (h : Asc true xs s n) (d i : Nat) (hd : i + (d + 1) < n) : cmp (ent xs s i) (ent xs s (i + (d + 1))) < 0 :=
  cmp_le_lt (Asc.le h d i (by omega)) ((h (i + d) (by omega)).2 rfl)

/-- What lies ahead of an entry below 'id' is below it. -/
theorem Asc.below {st : Bool} {xs id : List Int} {s n : Nat} (h : Asc st xs s n) {i j : Nat} (hij : i ≤ j) (hj : j < n) (hlt : cmp (ent xs s j) id < 0) : cmp (ent xs s i) id < 0 := by
  have := h.le (j - i) i (by omega)
  rw [show i + (j - i) = j by omega] at this
  exact cmp_le_lt this hlt

/-- The place of 'id' among n entries: all ahead of it are below 'id', none from it on is. -/
structure Place (xs : List Int) (s n : Nat) (id : List Int) (p : Nat) : Prop where
  le : p ≤ n
  ahead : ∀ i, i < p → cmp (ent xs s i) id < 0
  on : ∀ i, p ≤ i → i < n → ¬ cmp (ent xs s i) id < 0

/-! ### The linear scan -/
def fnd (xs : List Int) (s : Nat) (id : List Int) (k : Nat) : Bool := (List.range k).any fun i => cmp (ent xs s i) id == 0

theorem fnd_succ (xs : List Int) (s : Nat) (id : List Int) (k : Nat) : fnd xs s id (k + 1) = (fnd xs s id k || (cmp (ent xs s k) id == 0)) := by
  simp [fnd, List.range_succ]

theorem fnd_whole {st : Bool} {xs id : List Int} {s n p : Nat} (h : Asc st xs s n) (hp : Place xs s n id p) : fnd xs s id n = (decide (p < n) && (ent xs s p == id)) := by
  rw [Bool.eq_iff_iff]
  simp only [fnd, List.any_eq_true, List.mem_range, Bool.and_eq_true, decide_eq_true_eq, ← cmp_zero, beq_iff_eq]
  constructor
  · rintro ⟨i, hi, he⟩
    have hpi : p ≤ i := by
      rcases Nat.lt_or_ge i p with h1 | h1
      · have := hp.ahead i h1; omega
      · exact h1
    refine ⟨by omega, ?_⟩
    have h1 := h.le (i - p) p (by omega)
    rw [show p + (i - p) = i by omega] at h1
    have h2 := cmp_eq he
    rw [h2] at h1
    have h3 := hp.on p (Nat.le_refl _) (by omega)
    omega
  · rintro ⟨h1, h2⟩
    exact ⟨p, h1, h2⟩

theorem less_yes {xs id : List Int} {s n p k : Nat} (hp : Place xs s n id p) (hk : k < n) (h : cmp (ent xs s k) id < 0) : k < p := by
  rcases Nat.lt_or_ge k p with h1 | h1
  · exact h1
  · exact absurd h (hp.on k h1 hk)
theorem less_no {xs id : List Int} {s n p k : Nat} (hp : Place xs s n id p) (h : ¬ cmp (ent xs s k) id < 0) : p ≤ k := by
  rcases Nat.lt_or_ge k p with h1 | h1
  · exact absurd (hp.ahead k h1) h
  · exact h1

/-- In a strictly ascending list the i-th entry's place is i. -/
theorem place_of {xs : List Int} {s n p i : Nat} (h : Asc true xs s n) (hi : i < n) (hp : Place xs s n (ent xs s i) p) : p = i := by
  have h1 : p ≤ i := by
    rcases Nat.lt_or_ge i p with h1 | h1
    · have := hp.ahead i h1; rw [cmp_self] at this; omega
    · exact h1
  rcases Nat.lt_or_ge p i with h2 | h2
  · have h3 := h.lt (i - p - 1) p (by omega)
    rw [show p + (i - p - 1 + 1) = i by omega] at h3
    exact absurd h3 (hp.on p (Nat.le_refl _) (by omega))
  · omega

/-! ### The halving -/
structure Half (xs : List Int) (s n : Nat) (id : List Int) (lo hi : Nat) : Prop where
  lh : lo ≤ hi
  le : hi ≤ n
  ahead : ∀ i, i < lo → cmp (ent xs s i) id < 0
  on : ∀ i, hi ≤ i → i < n → ¬ cmp (ent xs s i) id < 0

theorem half_start (xs : List Int) (s n : Nat) (id : List Int) : Half xs s n id 0 n := ⟨Nat.zero_le _, Nat.le_refl _, fun i h => by omega, fun i h h' => by omega⟩
theorem half_up {st : Bool} {xs id : List Int} {s n lo hi m : Nat} (h : Asc st xs s n) (hh : Half xs s n id lo hi) (h2 : m < hi) (hc : cmp (ent xs s m) id < 0) : Half xs s n id (m + 1) hi :=
  ⟨by omega, hh.le, fun i hi => h.below (show i ≤ m by omega) (by have := hh.le; omega) hc, hh.on⟩
theorem half_down {st : Bool} {xs id : List Int} {s n lo hi m : Nat} (h : Asc st xs s n) (hh : Half xs s n id lo hi) (h1 : lo ≤ m) (h2 : m < hi) (hc : ¬ cmp (ent xs s m) id < 0) : Half xs s n id lo m :=
  ⟨h1, by have := hh.le; omega, hh.ahead, fun i hi hn hlt => hc (h.below hi hn hlt)⟩
theorem half_end {xs id : List Int} {s n lo hi : Nat} (hh : Half xs s n id lo hi) (h : ¬ lo < hi) : Place xs s n id lo := by
  have := hh.lh
  obtain rfl : lo = hi := by omega
  exact ⟨hh.le, hh.ahead, hh.on⟩

/-! ### The loop of b1Compare -/
/-- The first k numbers are one in both; what is left decides. -/
theorem cmp_drop : ∀ (k : Nat) (x y : List Int), x.take k = y.take k → cmp x y = cmp (x.drop k) (y.drop k)
  | 0, _, _, _ => rfl
  | _ + 1, [], [], _ => by simp
  | _ + 1, [], _ :: _, h => by simp at h
  | _ + 1, _ :: _, [], h => by simp at h
  | k + 1, a :: x, b :: y, h => by
    simp only [List.take_succ_cons, List.cons.injEq] at h
    obtain ⟨rfl, h⟩ := h
    simp only [List.drop_succ_cons]
    rw [← cmp_drop k x y h]
    conv => lhs; unfold cmp
    rw [if_neg (Int.lt_irrefl a), if_neg (Int.lt_irrefl a)]

theorem cmp_at {x y : List Int} {k : Nat} (hx : k < x.length) (hy : k < y.length) (h : x.take k = y.take k) :
    cmp x y = if x[k] < y[k] then -1 else if y[k] < x[k] then 1 else cmp (x.drop (k + 1)) (y.drop (k + 1)) := by
  rw [cmp_drop k x y h, List.drop_eq_getElem_cons hx, List.drop_eq_getElem_cons hy]
  rfl

theorem take_next {x y : List Int} {k : Nat} (hx : k < x.length) (hy : k < y.length) (h : x.take k = y.take k) (h1 : ¬ x[k] < y[k]) (h2 : ¬ y[k] < x[k]) : x.take (k + 1) = y.take (k + 1) := by
  rw [List.take_succ_eq_append_getElem hx, List.take_succ_eq_append_getElem hy, h, show x[k] = y[k] by omega]

theorem cmp_short {x y : List Int} (h : x.take x.length = y.take x.length) (hl : x.length < y.length) : cmp x y = -1 := by
  rw [cmp_drop x.length x y h, List.drop_length, List.drop_eq_getElem_cons hl]
  rfl
theorem cmp_long {x y : List Int} (h : x.take y.length = y.take y.length) (hl : y.length < x.length) : cmp x y = 1 := by
  rw [cmp_drop y.length x y h, List.drop_length, List.drop_eq_getElem_cons hl]
  rfl
theorem cmp_same {x y : List Int} (h : x.take x.length = y.take x.length) (hl : x.length = y.length) : cmp x y = 0 := by
  have h1 : x = y := by rw [List.take_length, hl, List.take_length] at h; exact h
  rw [h1]; exact cmp_self y

end Go.Proofs.Qxb6001053a.Pl
