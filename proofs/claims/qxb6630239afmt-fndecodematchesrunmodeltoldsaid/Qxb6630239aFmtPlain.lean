/- Plain functions on numbers: what the Go text of package hextext computes. No Go here. -/
namespace Go.Proofs.Qxb6630239aFmt
set_option linter.unusedVariables false
set_option linter.unusedSimpArgs false

def blank (c : Int) : Bool := c == 32 || c == 9 || c == 13 || c == 10

def hexv (c : Int) : Int :=
  if 48 ≤ c ∧ c ≤ 57 then c - 48 else if 97 ≤ c ∧ c ≤ 102 then c - 87 else if 65 ≤ c ∧ c ≤ 70 then c - 55 else -1

def isHex (c : Int) : Bool := decide (0 ≤ hexv c)

def digv (c : Int) : Int := if 0 ≤ hexv c then hexv c else 0

/-- What Decode spells; none where it fails. -/
def dec : List Int → Option (List Int)
  | [] => some []
  | [c] => if blank c then some [] else none
  | c :: d :: r => if blank c then dec (d :: r) else if isHex c && isHex d then (dec r).map (fun t => (16 * hexv c + hexv d) :: t) else none

theorem hexv_bd (c : Int) : -1 ≤ hexv c ∧ hexv c ≤ 15 := by
  unfold hexv; split
  · omega
  · split
    · omega
    · split <;> omega

theorem hexv_09 {c : Int} (h1 : 48 ≤ c) (h2 : c ≤ 57) : hexv c = c - 48 := by unfold hexv; rw [if_pos ⟨h1, h2⟩]
theorem hexv_af {c : Int} (h1 : 97 ≤ c) (h2 : c ≤ 102) : hexv c = c - 87 := by unfold hexv; rw [if_neg (by omega), if_pos ⟨h1, h2⟩]
theorem hexv_AF {c : Int} (h1 : 65 ≤ c) (h2 : c ≤ 70) : hexv c = c - 55 := by unfold hexv; rw [if_neg (by omega), if_neg (by omega), if_pos ⟨h1, h2⟩]
theorem hexv_no {c : Int} (h1 : c < 48 ∨ 57 < c) (h2 : c < 97 ∨ 102 < c) (h3 : c < 65 ∨ 70 < c) : hexv c = -1 := by
  unfold hexv; rw [if_neg (by omega), if_neg (by omega), if_neg (by omega)]

theorem isHex_iff {c : Int} : isHex c = true ↔ 0 ≤ hexv c := by simp [isHex]
theorem digv_bd (c : Int) : 0 ≤ digv c ∧ digv c ≤ 15 := by
  have := hexv_bd c; unfold digv; split <;> omega
theorem digv_hex {c : Int} (h : isHex c = true) : digv c = hexv c := by unfold digv; rw [if_pos (isHex_iff.1 h)]

theorem digv_of {c v : Int} (h : hexv c = v) (h0 : 0 ≤ v) : digv c = v ∧ isHex c = true := by
  subst h; exact ⟨digv_hex (isHex_iff.2 h0), isHex_iff.2 h0⟩
theorem digv_no {c : Int} (h : hexv c = -1) : digv c = 0 ∧ isHex c = false := by
  constructor
  · unfold digv; rw [h]; rfl
  · unfold isHex; rw [h]; rfl

/-- The k-th sign of zzHexVal's alphabet. -/
def dch (j : Nat) : Int := if j < 10 then 48 + j else 87 + j

theorem dch_up {c : Int} {k : Nat} (hk : k < 16) (h1 : 65 ≤ c) (h2 : c ≤ 90) (h : dch k = c + 32) : (k : Int) = hexv c := by
  unfold dch at h
  split at h
  · omega
  · rw [hexv_AF (by omega) (by omega)]; omega
theorem dch_low {c : Int} {k : Nat} (hk : k < 16) (hc : c < 65 ∨ 90 < c) (h : dch k = c) : (k : Int) = hexv c := by
  unfold dch at h
  split at h
  · rw [hexv_09 (by omega) (by omega)]; omega
  · rw [hexv_af (by omega) (by omega)]; omega
theorem dch_none_up {c : Int} (h1 : 65 ≤ c) (h2 : c ≤ 90) (h : ∀ j, j < 16 → dch j ≠ c + 32) : -1 = hexv c := by
  refine (hexv_no (by omega) (by omega) ?_).symm
  by_cases h70 : c ≤ 70
  · exfalso
    refine h (c - 55).toNat (by omega) ?_
    unfold dch; rw [if_neg (by omega)]; omega
  · omega
theorem dch_none_low {c : Int} (hc : c < 65 ∨ 90 < c) (h : ∀ j, j < 16 → dch j ≠ c) : -1 = hexv c := by
  refine (hexv_no ?_ ?_ (by omega)).symm
  · by_cases h1 : 48 ≤ c ∧ c ≤ 57
    · exfalso
      refine h (c - 48).toNat (by omega) ?_
      unfold dch; rw [if_pos (by omega)]; omega
    · omega
  · by_cases h1 : 97 ≤ c ∧ c ≤ 102
    · exfalso
      refine h (c - 87).toNat (by omega) ?_
      unfold dch; rw [if_neg (by omega)]; omega
    · omega
theorem dch_at (k : Nat) (hk : k < 16) (hp : k < (ByteArray.mk #[48, 49, 50, 51, 52, 53, 54, 55, 56, 57, 97, 98, 99, 100, 101, 102]).size) :
    (((ByteArray.mk #[48, 49, 50, 51, 52, 53, 54, 55, 56, 57, 97, 98, 99, 100, 101, 102])[k]'hp).toNat : Int) = dch k := by
  have : ∀ k : Fin 16, (((ByteArray.mk #[48, 49, 50, 51, 52, 53, 54, 55, 56, 57, 97, 98, 99, 100, 101, 102]).get k.1 (by have := k.2; exact this)).toNat : Int) = dch k.1 := by decide
  exact this ⟨k, hk⟩

theorem blank_hex {c : Int} (h : isHex c = true) : blank c = false := by
  have h' := isHex_iff.1 h
  by_cases e : c = 32 ∨ c = 9 ∨ c = 13 ∨ c = 10
  · exfalso
    rw [hexv_no (by omega) (by omega) (by omega)] at h'
    omega
  · simp [blank]; omega

theorem dec_blank {c : Int} (r : List Int) (h : blank c = true) : dec (c :: r) = dec r := by
  cases r with
  | nil => simp [dec, h]
  | cons d r => rw [dec, if_pos h]
theorem dec_one {c : Int} (h : blank c = false) : dec [c] = none := by simp [dec, h]
theorem dec_bad1 {c : Int} (r : List Int) (h : blank c = false) (h1 : isHex c = false) : dec (c :: r) = none := by
  cases r with
  | nil => exact dec_one h
  | cons d r => rw [dec, if_neg (by simp [h]), if_neg (by simp [h1])]
theorem dec_bad2 {c d : Int} (r : List Int) (h : blank c = false) (h1 : isHex d = false) : dec (c :: d :: r) = none := by
  rw [dec, if_neg (by simp [h]), if_neg (by simp [h1])]
theorem dec_pair {c d : Int} (r : List Int) (h : isHex c = true) (h1 : isHex d = true) : dec (c :: d :: r) = (dec r).map (fun t => (16 * hexv c + hexv d) :: t) := by
  rw [dec, if_neg (by simp [blank_hex h]), if_pos (by simp [h, h1])]

theorem drop_getD (xs : List Int) (k : Nat) (h : k < xs.length) : xs.drop k = xs.getD k 0 :: xs.drop (k + 1) := by
  rw [List.drop_eq_getElem_cons h]; simp [List.getD, List.getElem?_eq_getElem h]

theorem some_cons_append (outs : List Int) (x : Int) (o : Option (List Int)) : (o.map (fun t => x :: t)).map (outs ++ ·) = o.map ((outs ++ [x]) ++ ·) := by
  cases o <;> simp

/-- How many bytes are no blanks. -/
def nb (xs : List Int) : Nat := (xs.filter (fun c => !blank c)).length

theorem nb_le (xs : List Int) (k : Nat) : nb (xs.take k) ≤ k := by
  unfold nb
  exact Nat.le_trans (List.length_filter_le _ _) (List.length_take_le _ _)
theorem nb_step (xs : List Int) (k : Nat) (h : k < xs.length) (x : Int) (hx : x = xs.getD k 0) : nb (xs.take (k + 1)) = nb (xs.take k) + if blank x then 0 else 1 := by
  have hx' : xs[k] = x := by rw [hx]; simp [List.getD, List.getElem?_eq_getElem h]
  unfold nb
  rw [List.take_succ_eq_append_getElem h, List.filter_append, List.length_append, hx']
  cases hb : blank x <;> simp [hb]

theorem dec_nb : ∀ (n : Nat) (xs ys : List Int), xs.length ≤ n → dec xs = some ys → nb xs = 2 * ys.length
  | 0, xs, ys, hn, h => by
    have : xs = [] := List.eq_nil_of_length_eq_zero (by omega)
    subst this
    simp [dec] at h
    subst h; rfl
  | n + 1, xs, ys, hn, h => by
    match xs, hn, h with
    | [], _, h => simp [dec] at h; subst h; rfl
    | c :: r, hn, h =>
      cases hb : blank c
      · cases r with
        | nil => rw [dec_one hb] at h; cases h
        | cons d r =>
          by_cases hh : isHex c = true ∧ isHex d = true
          · rw [dec_pair _ hh.1 hh.2] at h
            obtain ⟨t, ht, rfl⟩ := Option.map_eq_some_iff.1 h
            have := dec_nb n r t (by simp at hn; omega) ht
            unfold nb at this ⊢
            simp [hb, blank_hex hh.2, this]; omega
          · rw [dec, if_neg (by simp [hb]), if_neg (by simpa using hh)] at h
            cases h
      · rw [dec_blank _ hb] at h
        have := dec_nb n r ys (by simp at hn; omega) h
        unfold nb at this ⊢
        simp [hb, this]

/-- Both, one behind the other; none where one of them is none. -/
def both : Option (List Int) → Option (List Int) → Option (List Int)
  | some x, some y => some (x ++ y)
  | _, _ => none

/-- A blank parts the text. -/
theorem dec_split (w : Int) (hw : blank w = true) (b : List Int) : ∀ (n : Nat) (a : List Int), a.length ≤ n →
    dec (a ++ w :: b) = both (dec a) (dec b)
  | 0, a, hn => by
    have : a = [] := List.eq_nil_of_length_eq_zero (by omega)
    subst this
    rw [List.nil_append, dec_blank _ hw]
    simp only [dec]
    cases dec b <;> rfl
  | n + 1, a, hn => by
    match a, hn with
    | [], _ =>
      rw [List.nil_append, dec_blank _ hw]
      simp only [dec]
      cases dec b <;> rfl
    | c :: r, hn =>
      cases hb : blank c
      · cases r with
        | nil =>
          rw [dec_one hb]
          have hwx : isHex w = false := by
            cases h : isHex w
            · rfl
            · rw [blank_hex h] at hw; cases hw
          rw [List.cons_append, List.nil_append, dec_bad2 _ hb hwx]; rfl
        | cons d r =>
          by_cases hh : isHex c = true ∧ isHex d = true
          · have ih := dec_split w hw b n r (by simp at hn; omega)
            rw [List.cons_append, List.cons_append, dec_pair _ hh.1 hh.2, dec_pair _ hh.1 hh.2, ih]
            cases dec r <;> cases dec b <;> rfl
          · rw [List.cons_append, List.cons_append, dec, if_neg (by simp [hb]), if_neg (by simpa using hh), dec, if_neg (by simp [hb]), if_neg (by simpa using hh)]; rfl
      · rw [List.cons_append, dec_blank _ hb, dec_blank _ hb]
        exact dec_split w hw b n r (by simp at hn; omega)

/-- What is left to be spelt from place k on, 'outs' being spelt already. -/
def At (xs : List Int) (k : Nat) (outs : List Int) : Prop := dec xs = (dec (xs.drop k)).map (outs ++ ·)

theorem At.start (xs : List Int) : At xs 0 [] := by unfold At; simp
theorem At.blank {xs outs : List Int} {k : Nat} (h : At xs k outs) (hk : k < xs.length) (hb : blank (xs.getD k 0) = true) : At xs (k + 1) outs := by
  unfold At at h ⊢; rw [h, drop_getD xs k hk, dec_blank _ hb]
theorem At.pair {xs outs : List Int} {k : Nat} (h : At xs k outs) (hk : k + 1 < xs.length) (h1 : isHex (xs.getD k 0) = true) (h2 : isHex (xs.getD (k + 1) 0) = true) :
    At xs (k + 2) (outs ++ [16 * hexv (xs.getD k 0) + hexv (xs.getD (k + 1) 0)]) := by
  unfold At at h ⊢; rw [h, drop_getD xs k (by omega), drop_getD xs (k + 1) hk, dec_pair _ h1 h2, some_cons_append]
theorem At.bad1 {xs outs : List Int} {k : Nat} (h : At xs k outs) (hk : k < xs.length) (h0 : Qxb6630239aFmt.blank (xs.getD k 0) = false) (h1 : isHex (xs.getD k 0) = false) : dec xs = none := by
  unfold At at h; rw [h, drop_getD xs k hk, dec_bad1 _ h0 h1]; rfl
theorem At.odd {xs outs : List Int} {k : Nat} (h : At xs k outs) (hk : k + 1 = xs.length) (h0 : Qxb6630239aFmt.blank (xs.getD k 0) = false) : dec xs = none := by
  unfold At at h; rw [h, drop_getD xs k (by omega), List.drop_of_length_le (by omega), dec_one h0]; rfl
theorem At.bad2 {xs outs : List Int} {k : Nat} (h : At xs k outs) (hk : k + 1 < xs.length) (h0 : Qxb6630239aFmt.blank (xs.getD k 0) = false) (h1 : isHex (xs.getD (k + 1) 0) = false) : dec xs = none := by
  unfold At at h; rw [h, drop_getD xs k (by omega), drop_getD xs (k + 1) hk, dec_bad2 _ h0 h1]; rfl
theorem At.done {xs outs : List Int} {k : Nat} (h : At xs k outs) (hk : xs.length ≤ k) : dec xs = some outs := by
  unfold At at h; rw [h, List.drop_of_length_le hk]; simp [dec]

end Go.Proofs.Qxb6630239aFmt
