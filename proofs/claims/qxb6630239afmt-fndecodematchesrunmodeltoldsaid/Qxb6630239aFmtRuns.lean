/- Plain laws on runs of hex digits. No Go here. -/
import Derived.Test.Qxb6630239aFmtPlain
namespace Go.Proofs.Qxb6630239aFmt
set_option linter.unusedVariables false
set_option linter.unusedSimpArgs false

theorem run_even : ∀ (q : Nat) (xs outs : List Int) (k m : Nat), At xs k outs → (∀ i, k ≤ i → i < m → isHex (xs.getD i 0) = true) → m ≤ xs.length → k + 2 * q = m →
    ∃ outs', At xs m outs' ∧ outs'.length = outs.length + q
  | 0, xs, outs, k, m, h, _, _, e => by
    have : k = m := by omega
    subst this
    exact ⟨outs, h, rfl⟩
  | q + 1, xs, outs, k, m, h, hh, hm, e => by
    have h2 := h.pair (by omega) (hh k (by omega) (by omega)) (hh (k + 1) (by omega) (by omega))
    obtain ⟨o', ho, hl⟩ := run_even q xs _ (k + 2) m h2 (fun i hi hi' => hh i (by omega) hi') hm (by omega)
    exact ⟨o', ho, by rw [hl]; simp; omega⟩

theorem run_odd (xs outs : List Int) (k m : Nat) (h : At xs k outs) (hh : ∀ i, k ≤ i → i < m → isHex (xs.getD i 0) = true) (hm : m ≤ xs.length) (hkm : k ≤ m) (hend : m < xs.length → isHex (xs.getD m 0) = false)
    (ho : (m - k) % 2 = 1) : dec xs = none := by
  obtain ⟨o', h', _⟩ := run_even ((m - k) / 2) xs outs k (m - 1) h (fun i hi hi' => hh i hi (by omega)) (by omega) (by omega)
  have hb : blank (xs.getD (m - 1) 0) = false := blank_hex (hh (m - 1) (by omega) (by omega))
  by_cases e : m = xs.length
  · exact h'.odd (by omega) hb
  · refine h'.bad2 (by omega) hb ?_
    rw [show m - 1 + 1 = m by omega]
    exact hend (by omega)

theorem run_even' (xs outs : List Int) (k m : Nat) (h : At xs k outs) (hh : ∀ i, k ≤ i → i < m → isHex (xs.getD i 0) = true) (hm : m ≤ xs.length) (hkm : k ≤ m) (ho : (m - k) % 2 = 0) :
    ∃ outs', At xs m outs' ∧ 2 * outs'.length = 2 * outs.length + (m - k) := by
  obtain ⟨o', h', hl⟩ := run_even ((m - k) / 2) xs outs k m h hh hm (by omega)
  exact ⟨o', h', by omega⟩

/-- How many bytes are hex digits. -/
def nh (xs : List Int) : Nat := (xs.filter isHex).length

theorem nh_le (xs : List Int) (k : Nat) : nh (xs.take k) ≤ k := by
  unfold nh
  exact Nat.le_trans (List.length_filter_le _ _) (List.length_take_le _ _)
theorem nh_step (xs : List Int) (k : Nat) (h : k < xs.length) (x : Int) (hx : x = xs.getD k 0) : nh (xs.take (k + 1)) = nh (xs.take k) + if isHex x then 1 else 0 := by
  have hx' : xs[k] = x := by rw [hx]; simp [List.getD, List.getElem?_eq_getElem h]
  unfold nh
  rw [List.take_succ_eq_append_getElem h, List.filter_append, List.length_append, hx']
  cases hb : isHex x <;> simp [hb]

/-- The nibbles of what is spelt are the text's digits, in their order. -/
theorem nibbles : ∀ (n : Nat) (xs outs : List Int), xs.length ≤ n → dec xs = some outs → ∀ k, k < xs.length → isHex (xs.getD k 0) = true →
    nh (xs.take k) / 2 < outs.length ∧ 0 ≤ outs.getD (nh (xs.take k) / 2) 0 ∧ outs.getD (nh (xs.take k) / 2) 0 ≤ 255 ∧
    (nh (xs.take k) % 2 = 0 → outs.getD (nh (xs.take k) / 2) 0 / 16 = hexv (xs.getD k 0)) ∧ (nh (xs.take k) % 2 = 1 → outs.getD (nh (xs.take k) / 2) 0 % 16 = hexv (xs.getD k 0))
  | 0, xs, outs, hn, h, k, hk, _ => by omega
  | n + 1, xs, outs, hn, h, k, hk, hx => by
    match xs, hn, h, hk, hx with
    | c :: r, hn, h, hk, hx =>
      cases hb : blank c
      · cases r with
        | nil => rw [dec_one hb] at h; cases h
        | cons d r =>
          by_cases hh : isHex c = true ∧ isHex d = true
          · rw [dec_pair _ hh.1 hh.2] at h
            obtain ⟨t, ht, rfl⟩ := Option.map_eq_some_iff.1 h
            have b1 := hexv_bd c
            have b2 := hexv_bd d
            have p1 := isHex_iff.1 hh.1
            have p2 := isHex_iff.1 hh.2
            match k, hk, hx with
            | 0, _, _ =>
              have e : nh (List.take 0 (c :: d :: r)) = 0 := rfl
              rw [e]
              have e2 : ((16 * hexv c + hexv d) :: t).getD (0 / 2) 0 = 16 * hexv c + hexv d := rfl
              have e3 : (c :: d :: r).getD 0 0 = c := rfl
              rw [e2, e3]
              exact ⟨by simp, by omega, by omega, fun _ => by omega, fun h => by omega⟩
            | 1, _, _ =>
              have e : nh (List.take 1 (c :: d :: r)) = 1 := by simp [nh, hh.1]
              rw [e]
              have e2 : ((16 * hexv c + hexv d) :: t).getD (1 / 2) 0 = 16 * hexv c + hexv d := rfl
              have e3 : (c :: d :: r).getD 1 0 = d := rfl
              rw [e2, e3]
              exact ⟨by simp, by omega, by omega, fun h => by omega, fun _ => by omega⟩
            | k + 2, hk, hx =>
              have e : nh (List.take (k + 2) (c :: d :: r)) = 2 + nh (r.take k) := by simp [nh, hh.1, hh.2]; omega
              have e3 : (c :: d :: r).getD (k + 2) 0 = r.getD k 0 := rfl
              rw [e3] at hx ⊢
              have ih := nibbles n r t (by simp at hn; omega) ht k (by simpa using hk) hx
              rw [e, show (2 + nh (r.take k)) / 2 = nh (r.take k) / 2 + 1 by omega, show (2 + nh (r.take k)) % 2 = nh (r.take k) % 2 by omega]
              have e4 : ((16 * hexv c + hexv d) :: t).getD (nh (r.take k) / 2 + 1) 0 = t.getD (nh (r.take k) / 2) 0 := rfl
              rw [e4]
              exact ⟨by simpa using ih.1, ih.2⟩
          · rw [dec, if_neg (by simp [hb]), if_neg (by simpa using hh)] at h
            cases h
      · rw [dec_blank _ hb] at h
        have hc : isHex c = false := by
          cases h' : isHex c
          · rfl
          · rw [blank_hex h'] at hb; cases hb
        match k, hk, hx with
        | 0, _, hx =>
          have e3 : (c :: r).getD 0 0 = c := rfl
          rw [e3, hc] at hx; cases hx
        | k + 1, hk, hx =>
          have e : nh (List.take (k + 1) (c :: r)) = nh (r.take k) := by simp [nh, hc]
          have e3 : (c :: r).getD (k + 1) 0 = r.getD k 0 := rfl
          rw [e3] at hx ⊢
          rw [e]
          exact nibbles n r outs (by simp at hn; omega) h k (by simpa using hk) hx

end Go.Proofs.Qxb6630239aFmt
