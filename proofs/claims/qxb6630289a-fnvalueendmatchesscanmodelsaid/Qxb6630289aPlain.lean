/- Plain functions and laws: what valueEnd and its model answer, as an automaton over the bytes from a place on. No Go here. -/
namespace Go.Proofs.Qxb6630289a
set_option linter.unusedVariables false
set_option linter.unusedSimpArgs false

def delim (c : Int) : Bool := c == 44 || c == 125 || c == 93 || c == 32 || c == 9 || c == 10 || c == 13
def opener (c : Int) : Bool := c == 34 || c == 123 || c == 91

/-- One byte read: (inside a string, behind a backslash, depth); none: the value has ended. -/
def jstep (s e : Bool) (d : Nat) (b : Int) : Option (Bool × Bool × Nat) :=
  if e then some (s, false, d)
  else if s then (if b = 92 then some (true, true, d) else if b = 34 then (if d = 0 then none else some (false, false, d)) else some (true, false, d))
  else if b = 34 then some (true, false, d)
  else if b = 123 ∨ b = 91 then some (false, false, d + 1)
  else if b = 125 ∨ b = 93 then (if d - 1 = 0 then none else some (false, false, d - 1))
  else some (false, false, d)

/-- The state after m bytes from i on. -/
def jrun (f : Nat → Int) (i : Nat) : Nat → Option (Bool × Bool × Nat)
  | 0 => some (false, false, 0)
  | m + 1 => (jrun f i m).bind fun s => jstep s.1 s.2.1 s.2.2 (f (i + m))

/-- The value that starts at i ends just before r. -/
def jfin (f : Nat → Int) (i r : Nat) : Prop := ∃ m s e d, r = i + m + 1 ∧ jrun f i m = some (s, e, d) ∧ jstep s e d (f (i + m)) = none

theorem jrun_succ {f : Nat → Int} {i m : Nat} {s e : Bool} {d : Nat} (h : jrun f i m = some (s, e, d)) : jrun f i (m + 1) = jstep s e d (f (i + m)) := by
  rw [jrun, h]; rfl
theorem jrun_none {f : Nat → Int} {i m : Nat} (h : jrun f i m = none) (q : Nat) : jrun f i (m + q) = none := by
  induction q with
  | zero => exact h
  | succ q ih => rw [← Nat.add_assoc, jrun, ih]; rfl
theorem jrun_some_le {f : Nat → Int} {i m q : Nat} {x : Bool × Bool × Nat} (h : jrun f i m = some x) (hq : q ≤ m) : ∃ y, jrun f i q = some y := by
  cases hy : jrun f i q with
  | some y => exact ⟨y, rfl⟩
  | none =>
    have := jrun_none hy (m - q)
    rw [show q + (m - q) = m by omega, h] at this
    cases this

theorem jfin_none {f : Nat → Int} {i r : Nat} (h : jfin f i r) : ∃ m, r = i + m + 1 ∧ jrun f i (m + 1) = none ∧ ∃ x, jrun f i m = some x := by
  obtain ⟨m, s, e, d, rfl, h1, h2⟩ := h
  exact ⟨m, rfl, by rw [jrun_succ h1, h2], _, h1⟩
/-- While the automaton runs, no end has been met. -/
theorem jfin_far {f : Nat → Int} {i m r : Nat} {x : Bool × Bool × Nat} (h : jrun f i m = some x) (hr : r ≤ i + m) : ¬ jfin f i r := by
  intro hf
  obtain ⟨q, rfl, h1, _⟩ := jfin_none hf
  have := jrun_none h1 (m - (q + 1))
  rw [show q + 1 + (m - (q + 1)) = m by omega, h] at this
  cases this
theorem jfin_unique {f : Nat → Int} {i r r' : Nat} (h : jfin f i r) (h' : jfin f i r') : r = r' := by
  obtain ⟨m, rfl, a1, x, a2⟩ := jfin_none h
  obtain ⟨m', rfl, b1, y, b2⟩ := jfin_none h'
  by_cases e : m < m'
  · obtain ⟨z, hz⟩ := jrun_some_le b2 (q := m + 1) (by omega)
    rw [a1] at hz; cases hz
  · by_cases e' : m' < m
    · obtain ⟨z, hz⟩ := jrun_some_le a2 (q := m' + 1) (by omega)
      rw [b1] at hz; cases hz
    · omega
theorem jfin_gt {f : Nat → Int} {i r : Nat} (h : jfin f i r) : i < r := by
  obtain ⟨m, s, e, d, rfl, _⟩ := h; omega

/-- What holds of the states behind the first byte. -/
theorem jrun_inv {f : Nat → Int} {i : Nat} (ho : opener (f i) = true) : ∀ (m : Nat) (s e : Bool) (d : Nat), jrun f i (m + 1) = some (s, e, d) →
    (e = true → s = true) ∧ (f i = 34 → s = true ∧ d = 0) ∧ (f i ≠ 34 → 1 ≤ d) ∧ d ≤ m + 1
  | 0, s, e, d, h => by
    have h0 : jrun f i 1 = jstep false false 0 (f (i + 0)) := rfl
    rw [Nat.zero_add, h0, Nat.add_zero] at h
    by_cases h34 : f i = 34
    · rw [h34] at h
      simp [jstep] at h
      obtain ⟨rfl, rfl, rfl⟩ := h
      exact ⟨fun _ => rfl, fun _ => ⟨rfl, rfl⟩, fun h => absurd h34 h, by omega⟩
    · have hb : f i = 123 ∨ f i = 91 := by
        simp [opener, h34] at ho; exact ho
      simp [jstep, h34, hb] at h
      obtain ⟨rfl, rfl, rfl⟩ := h
      exact ⟨fun h => (by cases h), fun h => absurd h h34, fun _ => by omega, by omega⟩
  | m + 1, s, e, d, h => by
    cases hp : jrun f i (m + 1) with
    | none => rw [jrun, hp] at h; cases h
    | some x =>
      obtain ⟨s', e', d'⟩ := x
      have ih := jrun_inv ho m s' e' d' hp
      rw [jrun_succ hp] at h
      generalize f (i + (m + 1)) = b at h
      obtain ⟨i1, i2, i3, i4⟩ := ih
      by_cases h34 : f i = 34
      · obtain ⟨rfl, rfl⟩ := i2 h34
        cases e' with
        | true =>
          simp [jstep] at h
          obtain ⟨rfl, rfl, rfl⟩ := h
          exact ⟨fun _ => rfl, fun _ => ⟨rfl, rfl⟩, fun h => absurd h34 h, by omega⟩
        | false =>
          simp only [jstep, Bool.false_eq_true, if_false, if_true] at h
          split at h
          · cases h; exact ⟨fun _ => rfl, fun _ => ⟨rfl, rfl⟩, fun h => absurd h34 h, by omega⟩
          · split at h
            · cases h
            · cases h; exact ⟨fun _ => rfl, fun _ => ⟨rfl, rfl⟩, fun h => absurd h34 h, by omega⟩
      · have hd := i3 h34
        refine ⟨?_, fun h => absurd h h34, fun _ => ?_, ?_⟩
        all_goals
          unfold jstep at h
          cases e' <;> cases s' <;> simp only [Bool.false_eq_true, if_false, if_true] at h i1
          all_goals
            repeat' (split at h)
            all_goals first | (cases h; done) | (cases h; intro hh; rfl) | (cases h; intro hh; cases hh; done) | (cases h; omega)

/-- The end of a string follows a quote, the end of a container a closing bracket. -/
theorem jfin_last {f : Nat → Int} {i r : Nat} (ho : opener (f i) = true) (h : jfin f i r) : (f i = 34 → f (r - 1) = 34) ∧ (f i ≠ 34 → f (r - 1) = 125 ∨ f (r - 1) = 93) := by
  obtain ⟨m, s, e, d, rfl, h1, h2⟩ := h
  rw [show i + m + 1 - 1 = i + m by omega]
  cases m with
  | zero =>
    exfalso
    have h0 : jrun f i 0 = some (false, false, 0) := rfl
    rw [h0] at h1
    cases h1
    rw [Nat.add_zero] at h2
    by_cases h34 : f i = 34
    · simp [jstep, h34] at h2
    · have hb : f i = 123 ∨ f i = 91 := by
        simp [opener, h34] at ho; exact ho
      simp [jstep, h34, hb] at h2
  | succ m =>
    obtain ⟨i1, i2, i3, _⟩ := jrun_inv ho m s e d h1
    generalize f (i + (m + 1)) = b at h2
    constructor
    · intro h34
      obtain ⟨rfl, rfl⟩ := i2 h34
      unfold jstep at h2
      cases e <;> simp only [Bool.false_eq_true, if_false, if_true] at h2
      · split at h2
        · cases h2
        · split at h2
          · assumption
          · cases h2
      · cases h2
    · intro h34
      have hd := i3 h34
      unfold jstep at h2
      cases e <;> cases s <;> simp only [Bool.false_eq_true, if_false, if_true] at h2
      · split at h2
        · cases h2
        · split at h2
          · cases h2
          · split at h2
            · assumption
            · cases h2
      · split at h2
        · cases h2
        · split at h2
          · split at h2
            · omega
            · cases h2
          · cases h2
      · cases h2
      · cases h2

/-- Inside a string: the state (behind a backslash) after m bytes from a on; none: the quote was met. -/
def srun (f : Nat → Int) (a : Nat) : Nat → Option Bool
  | 0 => some false
  | m + 1 => (srun f a m).bind fun e => if e then some false else if f (a + m) = 92 then some true else if f (a + m) = 34 then none else some false

def sfin (f : Nat → Int) (a r : Nat) : Prop := ∃ m, r = a + m + 1 ∧ srun f a m = some false ∧ f (a + m) = 34

theorem srun_succ {f : Nat → Int} {a m : Nat} {e : Bool} (h : srun f a m = some e) : srun f a (m + 1) = if e then some false else if f (a + m) = 92 then some true else if f (a + m) = 34 then none else some false := by
  rw [srun, h]; rfl
theorem srun_none {f : Nat → Int} {a m : Nat} (h : srun f a m = none) (q : Nat) : srun f a (m + q) = none := by
  induction q with
  | zero => exact h
  | succ q ih => rw [← Nat.add_assoc, srun, ih]; rfl
theorem srun_le {f : Nat → Int} {a m q : Nat} {x : Bool} (h : srun f a m = some x) (hq : q ≤ m) : ∃ y, srun f a q = some y := by
  cases hy : srun f a q with
  | some y => exact ⟨y, rfl⟩
  | none =>
    have := srun_none hy (m - q)
    rw [show q + (m - q) = m by omega, h] at this
    cases this
theorem sfin_far {f : Nat → Int} {a m r : Nat} {x : Bool} (h : srun f a m = some x) (hr : r ≤ a + m) : ¬ sfin f a r := by
  rintro ⟨q, rfl, h1, h2⟩
  have h3 : srun f a (q + 1) = none := by rw [srun_succ h1]; simp [h2]
  have := srun_none h3 (m - (q + 1))
  rw [show q + 1 + (m - (q + 1)) = m by omega, h] at this
  cases this
theorem sfin_gt {f : Nat → Int} {a r : Nat} (h : sfin f a r) : a < r := by
  obtain ⟨m, rfl, _⟩ := h; omega

theorem srun_plain {f : Nat → Int} {a m : Nat} (h : srun f a m = some false) (h1 : f (a + m) ≠ 34) (h2 : f (a + m) ≠ 92) : srun f a (m + 1) = some false := by
  rw [srun_succ h]; simp [h1, h2]
theorem srun_esc {f : Nat → Int} {a m : Nat} (h : srun f a m = some false) (h2 : f (a + m) = 92) : srun f a (m + 2) = some false := by
  have h3 : srun f a (m + 1) = some true := by rw [srun_succ h]; simp [h2]
  rw [srun_succ h3]; rfl

/-- The string's automaton inside the other. -/
theorem jrun_srun {f : Nat → Int} {i m d : Nat} (h : jrun f i m = some (true, false, d)) : ∀ (q : Nat) (e : Bool), srun f (i + m) q = some e → jrun f i (m + q) = some (true, e, d)
  | 0, e, he => by
    have h0 : srun f (i + m) 0 = some false := rfl
    rw [h0] at he; cases he
    exact h
  | q + 1, e, he => by
    cases hp : srun f (i + m) q with
    | none => rw [srun, hp] at he; cases he
    | some e' =>
      have ih := jrun_srun h q e' hp
      rw [srun_succ hp] at he
      rw [← Nat.add_assoc, jrun_succ ih, ← Nat.add_assoc]
      rw [Nat.add_assoc] at he
      unfold jstep
      cases e' with
      | true => simp at he ⊢; exact he
      | false =>
        simp only [Bool.false_eq_true, if_false, if_true] at he ⊢
        rw [Nat.add_assoc]
        split at he
        · rename_i hb; rw [if_pos hb]; cases he; rfl
        · rename_i hb
          rw [if_neg hb]
          split at he
          · cases he
          · rename_i hc; rw [if_neg hc]; cases he; rfl

theorem jfin_of_sfin {f : Nat → Int} {i m r : Nat} (h : jrun f i m = some (true, false, 0)) (hs : sfin f (i + m) r) : jfin f i r := by
  obtain ⟨q, rfl, h1, h2⟩ := hs
  refine ⟨m + q, true, false, 0, by omega, jrun_srun h q false h1, ?_⟩
  rw [← Nat.add_assoc, h2]; rfl
theorem jrun_of_sfin {f : Nat → Int} {i m r d : Nat} (h : jrun f i m = some (true, false, d)) (hd : 1 ≤ d) (hs : sfin f (i + m) r) : ∃ q, r = i + q ∧ jrun f i q = some (false, false, d) := by
  obtain ⟨q, rfl, h1, h2⟩ := hs
  refine ⟨m + q + 1, by omega, ?_⟩
  rw [jrun_succ (jrun_srun h q false h1), ← Nat.add_assoc, h2]
  unfold jstep
  simp; omega

/-- What stringEnd answers at a quote just before a, of n bytes. -/
def SEnd (f : Nat → Int) (n a : Nat) (v : Int) : Prop := (∃ r, r ≤ n ∧ sfin f a r ∧ v = r) ∨ ((∃ q e, srun f a q = some e ∧ n ≤ a + q) ∧ v = -1)

/-- What valueEnd answers. -/
def VEnd (f : Nat → Int) (n i : Nat) (v : Int) : Prop :=
  (n ≤ i ∧ v = -1) ∨
  (i < n ∧ opener (f i) = true ∧ ((∃ r, r ≤ n ∧ jfin f i r ∧ v = r) ∨ ((∃ q x, jrun f i q = some x ∧ n ≤ i + q) ∧ v = -1))) ∨
  (i < n ∧ opener (f i) = false ∧ ((delim (f i) = true ∧ v = -1) ∨
    (delim (f i) = false ∧ ∃ r, i < r ∧ r ≤ n ∧ v = r ∧ (∀ j, i ≤ j → j < r → delim (f j) = false) ∧ (r < n → delim (f r) = true))))

theorem VEnd.unique {f : Nat → Int} {n i : Nat} {v v' : Int} (h : VEnd f n i v) (h' : VEnd f n i v') : v = v' := by
  rcases h with ⟨a1, rfl⟩ | ⟨a1, a2, a3⟩ | ⟨a1, a2, a3⟩ <;> rcases h' with ⟨b1, rfl⟩ | ⟨b1, b2, b3⟩ | ⟨b1, b2, b3⟩
  · rfl
  · omega
  · omega
  · omega
  · rcases a3 with ⟨r, hr, hf, rfl⟩ | ⟨⟨q, x, hq, hn⟩, rfl⟩ <;> rcases b3 with ⟨r', hr', hf', rfl⟩ | ⟨⟨q', x', hq', hn'⟩, rfl⟩
    · rw [jfin_unique hf hf']
    · exact absurd hf (jfin_far hq' (by omega))
    · exact absurd hf' (jfin_far hq (by omega))
    · rfl
  · rw [a2] at b2; cases b2
  · omega
  · rw [a2] at b2; cases b2
  · rcases a3 with ⟨hd, rfl⟩ | ⟨hd, r, h1, h2, rfl, h3, h4⟩ <;> rcases b3 with ⟨hd', rfl⟩ | ⟨hd', r', h1', h2', rfl, h3', h4'⟩
    · rfl
    · rw [hd] at hd'; cases hd'
    · rw [hd] at hd'; cases hd'
    · have e : r = r' := by
        by_cases h : r < r'
        · have a := h3' r (by omega) h
          rw [h4 (by omega)] at a; cases a
        · by_cases h' : r' < r
          · have a := h3 r' (by omega) h'
            rw [h4' (by omega)] at a; cases a
          · omega
      rw [e]

theorem cut_fin {f : Nat → Int} {i k R : Nat} {v : Int} (ho : opener (f i) = true) (hf : jfin f i R) (h : VEnd f k i v) : (R ≤ k → v = R) ∧ (k < R → v = -1) := by
  have hgt := jfin_gt hf
  rcases h with ⟨a1, rfl⟩ | ⟨a1, a2, a3⟩ | ⟨a1, a2, a3⟩
  · exact ⟨fun h => by omega, fun _ => rfl⟩
  · rcases a3 with ⟨r, hr, hf', rfl⟩ | ⟨⟨q, x, hq, hn⟩, rfl⟩
    · rw [jfin_unique hf hf']
      exact ⟨fun _ => rfl, fun h => by omega⟩
    · exact ⟨fun h => absurd hf (jfin_far hq (by omega)), fun _ => rfl⟩
  · rw [ho] at a2; cases a2
theorem cut_run {f : Nat → Int} {i k q : Nat} {x : Bool × Bool × Nat} {v : Int} (ho : opener (f i) = true) (hq : jrun f i q = some x) (hk : k ≤ i + q) (h : VEnd f k i v) : v = -1 := by
  rcases h with ⟨a1, rfl⟩ | ⟨a1, a2, a3⟩ | ⟨a1, a2, a3⟩
  · rfl
  · rcases a3 with ⟨r, hr, hf', rfl⟩ | ⟨_, rfl⟩
    · exact absurd hf' (jfin_far hq (by omega))
    · rfl
  · rw [ho] at a2; cases a2
theorem cut_bad {f : Nat → Int} {i k : Nat} {v : Int} (ho : opener (f i) = false) (hd : delim (f i) = true) (h : VEnd f k i v) : v = -1 := by
  rcases h with ⟨a1, rfl⟩ | ⟨a1, a2, a3⟩ | ⟨a1, a2, a3⟩
  · rfl
  · rw [ho] at a2; cases a2
  · rcases a3 with ⟨_, rfl⟩ | ⟨hd', _⟩
    · rfl
    · rw [hd] at hd'; cases hd'
theorem cut_lit {f : Nat → Int} {n i k R : Nat} {v : Int} (ho : opener (f i) = false) (hd : delim (f i) = false) (hk : k ≤ n) (h1 : i < R) (h2 : R ≤ n) (h3 : ∀ j, i ≤ j → j < R → delim (f j) = false) (h4 : R < n → delim (f R) = true)
    (h : VEnd f k i v) : (k ≤ i → v = -1) ∧ (i < k → R < k → v = R) ∧ (i < k → k ≤ R → v = k) := by
  rcases h with ⟨a1, rfl⟩ | ⟨a1, a2, a3⟩ | ⟨a1, a2, a3⟩
  · exact ⟨fun _ => rfl, fun h => by omega, fun h => by omega⟩
  · rw [ho] at a2; cases a2
  · rcases a3 with ⟨hd', rfl⟩ | ⟨_, r, b1, b2, rfl, b3, b4⟩
    · rw [hd] at hd'; cases hd'
    · refine ⟨fun h => by omega, fun _ hR => ?_, fun _ hR => ?_⟩
      · have : r = R := by
          by_cases h : r < R
          · have a := h3 r (by omega) h
            rw [b4 (by omega)] at a; cases a
          · by_cases h' : R < r
            · have a := b3 R (by omega) h'
              rw [h4 (by omega)] at a; cases a
            · omega
        rw [this]
      · have : r = k := by
          by_cases h : r < k
          · have a := h3 r (by omega) (by omega)
            rw [b4 h] at a; cases a
          · omega
        rw [this]

end Go.Proofs.Qxb6630289a
