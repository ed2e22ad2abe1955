/-
  The plain mathematics of seat b6000799a: what 'plain' reckons, as a fold over the text's bytes; no Go in sight.
-/
namespace Go.Proofs.Qxb6000799a.Pl

/-- The state of 'plain' behind some bytes: the coefficient, how many digits, the digits since the start or the point, whether a point was met. -/
structure St where
  coef : Int
  digits : Nat
  run : Nat
  point : Bool

def init : St := ⟨0, 0, 0, false⟩

/-- One byte. -/
def step (st : St) (c : Nat) : Option St :=
  if 48 ≤ c ∧ c ≤ 57 then
    some ⟨if st.digits + 1 ≤ 18 then st.coef * 10 + ((c : Int) - 48) else st.coef, st.digits + 1, st.run + 1, st.point⟩
  else if c = 46 ∧ st.point = false ∧ 0 < st.run then some ⟨st.coef, st.digits, 0, true⟩
  else none

def go (st : St) : List Nat → Option St
  | [] => some st
  | c :: r => match step st c with
    | none => none
    | some st' => go st' r

theorem go_append (st : St) (a b : List Nat) : go st (a ++ b) = match go st a with | none => none | some st' => go st' b := by
  induction a generalizing st with
  | nil => rfl
  | cons c r ih =>
    simp only [List.cons_append, go]
    cases step st c with
    | none => rfl
    | some st' => exact ih st'

theorem go_snoc (st : St) (a : List Nat) (c : Nat) (st' : St) (h : go st a = some st') : go st (a ++ [c]) = step st' c := by
  rw [go_append, h]
  simp only [go]
  cases step st' c <;> rfl

def isDig (c : Nat) : Bool := decide (48 ≤ c ∧ c ≤ 57)

theorem isDig_iff (c : Nat) : isDig c = true ↔ 48 ≤ c ∧ c ≤ 57 := by simp [isDig]

/-- The coefficient stays below a power of ten; the counts below the length. -/
structure Good (st : St) (n : Nat) : Prop where
  nonneg : 0 ≤ st.coef
  small : st.coef < ((10 ^ (min st.digits 18) : Nat) : Int)
  dig : st.digits ≤ n
  run : st.run ≤ n

theorem good_init : Good init 0 := ⟨by decide, by decide, Nat.le_refl _, Nat.le_refl _⟩

theorem good_step {st st' : St} {n c : Nat} (g : Good st n) (h : step st c = some st') : Good st' (n + 1) := by
  obtain ⟨g1, g2, g3, g4⟩ := g
  unfold step at h
  by_cases h1 : 48 ≤ c ∧ c ≤ 57
  · rw [if_pos h1] at h
    simp only [Option.some.injEq] at h
    subst h
    by_cases h2 : st.digits + 1 ≤ 18
    · have e1 : min st.digits 18 = st.digits := Nat.min_eq_left (by omega)
      have e2 : min (st.digits + 1) 18 = st.digits + 1 := Nat.min_eq_left h2
      rw [e1] at g2
      refine ⟨?_, ?_, by simp; omega, by simp; omega⟩
      · simp only [if_pos h2]; omega
      · simp only [if_pos h2, e2, Nat.pow_succ]; omega
    · have e1 : min st.digits 18 = 18 := Nat.min_eq_right (by omega)
      have e2 : min (st.digits + 1) 18 = 18 := Nat.min_eq_right (by omega)
      rw [e1] at g2
      exact ⟨by simp only [if_neg h2]; exact g1, by simp only [if_neg h2, e2]; exact g2, by simp; omega, by simp; omega⟩
  · rw [if_neg h1] at h
    by_cases h2 : c = 46 ∧ st.point = false ∧ 0 < st.run
    · rw [if_pos h2] at h
      simp only [Option.some.injEq] at h
      subst h
      exact ⟨g1, g2, by simp; omega, by simp⟩
    · rw [if_neg h2] at h
      cases h

theorem good_go {st st' : St} {n : Nat} {l : List Nat} (g : Good st n) (h : go st l = some st') : Good st' (n + l.length) := by
  induction l generalizing st n with
  | nil => simp only [go, Option.some.injEq] at h; subst h; exact g
  | cons c r ih =>
    simp only [go] at h
    cases e : step st c with
    | none => rw [e] at h; cases h
    | some s1 =>
      rw [e] at h
      have := ih (good_step g e) h
      rw [List.length_cons, show n + (r.length + 1) = n + 1 + r.length by omega]
      exact this

/-- A bound in plain numerals while there is still room for a digit. -/
theorem good_room {st : St} {n : Nat} (g : Good st n) (h : st.digits < 18) : 0 ≤ st.coef ∧ st.coef ≤ 99999999999999999 := by
  refine ⟨g.nonneg, ?_⟩
  have h1 := g.small
  rw [Nat.min_eq_left (by omega)] at h1
  have h2 : 10 ^ st.digits ≤ 10 ^ 17 := Nat.pow_le_pow_right (by decide) (by omega)
  have h3 : 10 ^ 17 = 100000000000000000 := by decide
  omega

theorem good_all {st : St} {n : Nat} (g : Good st n) : 0 ≤ st.coef ∧ st.coef ≤ 999999999999999999 := by
  refine ⟨g.nonneg, ?_⟩
  have h1 := g.small
  have h2 : 10 ^ (min st.digits 18) ≤ 10 ^ 18 := Nat.pow_le_pow_right (by decide) (Nat.min_le_right _ _)
  have h3 : 10 ^ 18 = 1000000000000000000 := by decide
  omega

/-! ### What 'plain' gives back -/
def coefR (l : List Nat) : Int := match go init l with | none => 0 | some st => st.coef
def digitsR (l : List Nat) : Nat := match go init l with | none => 0 | some st => st.digits
def decR (l : List Nat) : Nat := match go init l with | none => 0 | some st => if st.point then st.run else 0
def okR (l : List Nat) : Bool := match go init l with | none => false | some st => decide (0 < st.run)

/-! ### The grammar -/
def allDig (l : List Nat) : Bool := l.all isDig

theorem go_digits (st : St) (l : List Nat) (h : allDig l = true) : ∃ c, go st l = some ⟨c, st.digits + l.length, st.run + l.length, st.point⟩ := by
  induction l generalizing st with
  | nil => exact ⟨st.coef, rfl⟩
  | cons c r ih =>
    simp only [allDig, List.all_cons, Bool.and_eq_true] at h
    obtain ⟨h1, h2⟩ := h
    have hc := (isDig_iff c).1 h1
    simp only [go, step, if_pos hc]
    obtain ⟨q, hq⟩ := ih ⟨if st.digits + 1 ≤ 18 then st.coef * 10 + ((c : Int) - 48) else st.coef, st.digits + 1, st.run + 1, st.point⟩ h2
    refine ⟨q, ?_⟩
    rw [hq]
    simp only [List.length_cons, Option.some.injEq, St.mk.injEq, true_and, and_true]
    omega

/-- A byte that is no digit, and no point that would serve, ends it. -/
theorem go_stuck (st : St) (l : List Nat) (h : allDig l = false) (hp : st.point = true ∨ ∀ c ∈ l, c ≠ 46) : go st l = none := by
  induction l generalizing st with
  | nil => simp [allDig] at h
  | cons c r ih =>
    by_cases hc : 48 ≤ c ∧ c ≤ 57
    · simp only [go, step, if_pos hc]
      refine ih _ ?_ ?_
      · simp only [allDig, List.all_cons] at h ⊢
        rw [(isDig_iff c).2 hc] at h
        simpa using h
      · rcases hp with hp | hp
        · exact .inl hp
        · exact .inr fun d hd => hp d (List.mem_cons_of_mem _ hd)
    · simp only [go, step, if_neg hc]
      rw [if_neg]
      rintro ⟨e, hpt, _⟩
      rcases hp with hp | hp
      · rw [hp] at hpt; cases hpt
      · exact hp c List.mem_cons_self e

theorem law_nopoint (l : List Nat) (h : ∀ c ∈ l, c ≠ 46) :
    okR l = (decide (0 < l.length) && allDig l) ∧ (okR l = true → digitsR l = l.length ∧ decR l = 0) := by
  by_cases hd : allDig l = true
  · obtain ⟨c, hc⟩ := go_digits init l hd
    simp only [init, Nat.zero_add] at hc
    simp [okR, digitsR, decR, init, hc, hd]
  · have hd' : allDig l = false := by simpa using hd
    have hn := go_stuck init l hd' (.inr h)
    simp [okR, digitsR, decR, hn, hd']

theorem law_point (a b : List Nat) (h : ∀ c ∈ a, c ≠ 46) :
    okR (a ++ 46 :: b) = (decide (0 < a.length) && (decide (0 < b.length) && (allDig a && allDig b))) ∧ (okR (a ++ 46 :: b) = true → digitsR (a ++ 46 :: b) = a.length + b.length ∧ decR (a ++ 46 :: b) = b.length) := by
  by_cases hd : allDig a = true
  · obtain ⟨c, hc⟩ := go_digits init a hd
    simp only [init, Nat.zero_add] at hc
    have e : go init (a ++ 46 :: b) = match step ⟨c, a.length, a.length, false⟩ 46 with | none => none | some st' => go st' b := by
      rw [go_append, init, hc]; rfl
    by_cases ha : 0 < a.length
    · have es : step ⟨c, a.length, a.length, false⟩ 46 = some ⟨c, a.length, 0, true⟩ := by
        simp [step, ha]
      rw [es] at e
      simp only [] at e
      by_cases hb : allDig b = true
      · obtain ⟨q, hq⟩ := go_digits ⟨c, a.length, 0, true⟩ b hb
        rw [hq] at e
        simp only [Nat.zero_add] at e
        simp [okR, digitsR, decR, e, hd, hb, ha]
      · have hb' : allDig b = false := by simpa using hb
        rw [go_stuck ⟨c, a.length, 0, true⟩ b hb' (.inl rfl)] at e
        simp [okR, digitsR, decR, e, hb']
    · have es : step ⟨c, a.length, a.length, false⟩ 46 = none := by
        simp [step, ha]
      rw [es] at e
      simp only [] at e
      have ha0 : a.length = 0 := by omega
      simp [okR, digitsR, decR, e, ha0]
  · have hd' : allDig a = false := by simpa using hd
    have e : go init (a ++ 46 :: b) = none := by rw [go_append, go_stuck init a hd' (.inr h)]
    simp [okR, digitsR, decR, e, hd']

theorem coefR_nonneg (l : List Nat) : 0 ≤ coefR l := by
  unfold coefR
  cases e : go init l with
  | none => exact Int.le_refl _
  | some st => simpa using (good_go good_init e).nonneg

/-! ### The sign -/
/-- Every digit of the text is '0'. -/
def allZero (l : List Nat) : Bool := l.all fun c => !(isDig c && !(c == 48))

theorem zero_step {st st' : St} {n c : Nat} (g : Good st n) (h : step st c = some st') (hd : st'.digits ≤ 18) : decide (st'.coef = 0) = (decide (st.coef = 0) && !(isDig c && !(c == 48))) := by
  have g1 := g.nonneg
  unfold step at h
  by_cases h1 : 48 ≤ c ∧ c ≤ 57
  · rw [if_pos h1] at h
    simp only [Option.some.injEq] at h
    subst h
    simp only at hd
    simp only [if_pos hd]
    rw [(isDig_iff c).2 h1, Bool.eq_iff_iff]
    simp
    omega
  · rw [if_neg h1] at h
    have hi : isDig c = false := by simp only [isDig, h1, decide_false]
    by_cases h2 : c = 46 ∧ st.point = false ∧ 0 < st.run
    · rw [if_pos h2] at h
      simp only [Option.some.injEq] at h
      subst h
      simp [hi]
    · rw [if_neg h2] at h
      cases h

theorem digits_mono {st st' : St} {l : List Nat} (h : go st l = some st') : st.digits ≤ st'.digits := by
  induction l generalizing st with
  | nil => simp only [go, Option.some.injEq] at h; subst h; exact Nat.le_refl _
  | cons c r ih =>
    simp only [go] at h
    cases e : step st c with
    | none => rw [e] at h; cases h
    | some s1 =>
      rw [e] at h
      have h1 := ih h
      have h2 : st.digits ≤ s1.digits := by
        unfold step at e
        split at e
        · simp only [Option.some.injEq] at e; subst e; simp
        · split at e
          · simp only [Option.some.injEq] at e; subst e; exact Nat.le_refl _
          · cases e
      omega

theorem zero_go {st st' : St} {n : Nat} {l : List Nat} (g : Good st n) (h : go st l = some st') (hd : st'.digits ≤ 18) : decide (st'.coef = 0) = (decide (st.coef = 0) && allZero l) := by
  induction l generalizing st n with
  | nil => simp only [go, Option.some.injEq] at h; subst h; simp [allZero]
  | cons c r ih =>
    simp only [go] at h
    cases e : step st c with
    | none => rw [e] at h; cases h
    | some s1 =>
      rw [e] at h
      rw [ih (good_step g e) h, zero_step g e (Nat.le_trans (digits_mono h) hd)]
      simp only [allZero, List.all_cons, Bool.and_assoc]

theorem law_sign (l : List Nat) (hok : okR l = true) (hd : digitsR l ≤ 18) : decide (coefR l = 0) = allZero l := by
  unfold okR at hok
  unfold digitsR at hd
  unfold coefR
  cases e : go init l with
  | none => rw [e] at hok; cases hok
  | some st =>
    rw [e] at hd
    have := zero_go good_init e hd
    simpa [init] using this

theorem allDig_snoc (l : List Nat) (c : Nat) : allDig (l ++ [c]) = (allDig l && isDig c) := by simp [allDig]
theorem allZero_snoc (l : List Nat) (c : Nat) : allZero (l ++ [c]) = (allZero l && !(isDig c && !(c == 48))) := by simp [allZero]

end Go.Proofs.Qxb6000799a.Pl
