import Derived.Test.Qxb6630289aValue
namespace Go.Proofs.Qxb6630289a
set_option linter.unusedVariables false
set_option linter.unusedSimpArgs false
open Go.RowKit

set_option maxHeartbeats 400000 in
theorem model_far (ao : Option Addr) (cap n i : Nat) (w : World) (hi : n ≤ i) :
    Calls Try.prog 7 #[.slice ao n cap, .int .i64 (i : Int)] w fun e w' => e = .returned (.int .i64 (-1)) ∧ w = w' := by
  go_enter Try.func7, Try.ntmps7
  go_wp2
  go_ret
  exact ⟨rfl, rfl⟩

set_option maxHeartbeats 800000 in
theorem model_lit (b o cap n i : Nat) (f : Nat → Int) (w : World) (hn : n ≤ 1048576) (hi : i < n) (ho : opener (f i) = false)
    (hc : ∀ j, j < n → w.cell? ⟨b, o + j, none⟩ = some (.int .u8 (f j))) :
    Calls Try.prog 7 #[.slice (some ⟨b, o, none⟩) n cap, .int .i64 (i : Int)] w fun e w' => ∃ v, e = .returned (.int .i64 v) ∧ VEnd f n i v ∧ w = w' := by
  have Hc : Hid (∀ j, j < n → w.cell? ⟨b, o + j, none⟩ = some (.int .u8 (f j))) := hc
  obtain ⟨c, HC, h0⟩ : ∃ c, Hid (c = f i) ∧ w.cell? ⟨b, o + i, none⟩ = some (.int .u8 c) := ⟨_, rfl, hc i hi⟩
  have Ho : Hid (opener (f i) = false) := ho
  rw [← HC.out] at ho
  simp only [opener, Bool.or_eq_false_iff] at ho
  obtain ⟨⟨n34, n123⟩, n91⟩ := ho
  clear hc
  have hg : decide (n ≤ i) = false := by simp; omega
  cases hdc : delim c
  · have HDc : Hid (delim (f i) = false) := by rw [← HC.out]; exact hdc
    go_enter Try.func7, Try.ntmps7
    go_wp2_with (go_at_call 9; refine (isDelim_any _ _).mono ?_; rintro e w' ⟨rfl, rfl⟩)
    go_loop [12, 13] (fun t k => ∃ r q : Nat, t = .int .i64 (r : Int) ∧ k = .int .i64 (q : Int) ∧ i ≤ q ∧ q < r ∧ r ≤ n ∧ Hid (∀ j, q < j → j < r → delim (f j) = false) ∧ Hid (r < n → delim (f r) = true)) (fun _ k => (intOf k).toNat - i)
    case atStart => exact ⟨n, n - 1, rfl, by go_num, by omega, by omega, by omega, fun j h1 h2 => by omega, fun h => by omega⟩
    case round =>
      obtain ⟨r, q, rfl, rfl, h1, h2, h3, HD, HE⟩ := hrel
      by_cases hlt : i < q
      · obtain ⟨d, Hd, hd⟩ : ∃ d, Hid (d = f q) ∧ w.cell? ⟨b, o + q, none⟩ = some (.int .u8 d) := ⟨_, rfl, Hc.out q (by omega)⟩
        cases hdl : delim d
        · have HD' : Hid (∀ j, q - 1 < j → j < r → delim (f j) = false) := fun j h1 h2 => if e : j = q then by rw [e, ← Hd.out]; exact hdl else HD.out j (by omega) (by omega)
          go_wp2_with (go_at_call 9; refine (isDelim_any _ _).mono ?_; rintro e w' ⟨rfl, rfl⟩)
          go_round
          case rel => exact ⟨r, q - 1, rfl, by go_num, by omega, by omega, by omega, HD', HE⟩
          case measure => simp [intOf]; omega
        · have HD' : Hid (∀ j, q - 1 < j → j < q → delim (f j) = false) := fun j h1 h2 => by omega
          have HE' : Hid (q < n → delim (f q) = true) := fun _ => by rw [← Hd.out]; exact hdl
          go_wp2_with (go_at_call 9; refine (isDelim_any _ _).mono ?_; rintro e w' ⟨rfl, rfl⟩)
          go_round
          case rel => exact ⟨q, q - 1, rfl, by go_num, by omega, by omega, by omega, HD', HE'⟩
          case measure => simp [intOf]; omega
      · have HV : Hid (VEnd f n i r) := .inr (.inr ⟨hi, Ho.out, .inr ⟨HDc.out, r, by omega, by omega, rfl, fun j g1 g2 => if e : j = i then by rw [e]; exact HDc.out else HD.out j (by omega) g2, HE.out⟩⟩)
        go_wp2_with fail
        go_ret
        exact ⟨_, rfl, HV.out, rfl⟩
  · have HV : Hid (VEnd f n i (-1)) := .inr (.inr ⟨hi, Ho.out, .inl ⟨by rw [← HC.out]; exact hdc, rfl⟩⟩)
    go_enter Try.func7, Try.ntmps7
    go_wp2_with (go_at_call 9; refine (isDelim_any _ _).mono ?_; rintro e w' ⟨rfl, rfl⟩)
    go_ret
    exact ⟨_, rfl, HV.out, rfl⟩

set_option maxHeartbeats 2000000 in
theorem model_box (b o cap n i : Nat) (f : Nat → Int) (w : World) (hn : n ≤ 1048576) (hi : i < n) (ho : opener (f i) = true)
    (hc : ∀ j, j < n → w.cell? ⟨b, o + j, none⟩ = some (.int .u8 (f j))) :
    Calls Try.prog 7 #[.slice (some ⟨b, o, none⟩) n cap, .int .i64 (i : Int)] w fun e w' => ∃ v, e = .returned (.int .i64 v) ∧ VEnd f n i v ∧ w = w' := by
  have Hc : Hid (∀ j, j < n → w.cell? ⟨b, o + j, none⟩ = some (.int .u8 (f j))) := hc
  obtain ⟨c0, HC0, h0⟩ : ∃ c, Hid (c = f i) ∧ w.cell? ⟨b, o + i, none⟩ = some (.int .u8 c) := ⟨_, rfl, hc i hi⟩
  have Ho : Hid (opener (f i) = true) := ho
  have HNF : Hid (∀ q x, jrun f i q = some x → n ≤ i + q → VEnd f n i (-1)) := fun q x h1 h2 => .inr (.inl ⟨hi, Ho.out, .inr ⟨⟨q, x, h1, h2⟩, rfl⟩⟩)
  have HFN : Hid (∀ r, r ≤ n → jfin f i r → VEnd f n i r) := fun r h1 h2 => .inr (.inl ⟨hi, Ho.out, .inl ⟨r, h1, h2, rfl⟩⟩)
  have hg : decide (n ≤ i) = false := by simp; omega
  have hop : c0 = 34 ∨ c0 = 123 ∨ c0 = 91 := by
    rw [← HC0.out] at ho
    simp [opener] at ho
    omega
  clear hc ho
  go_enter Try.func7, Try.ntmps7
  rcases hop with rfl | rfl | rfl
  all_goals
    go_wp2
    go_loop [7, 8, 9, 10] (fun s7 s8 s9 p => ∃ (m d : Nat) (s e : Bool), s7 = .bool s ∧ s8 = .bool e ∧ s9 = .int .i64 (d : Int) ∧ p = .int .i64 ((i : Int) + (m : Int)) ∧ i + m ≤ n ∧ d ≤ m ∧ Hid (jrun f i m = some (s, e, d))) (fun _ _ _ p => n - (intOf p).toNat)
    case atStart => exact ⟨0, 0, false, false, rfl, rfl, rfl, by go_num, by omega, by omega, rfl⟩
    case round =>
      obtain ⟨m, d, s, e, rfl, rfl, rfl, rfl, h1, h2, HJ⟩ := hrel
      by_cases hlt : i + m < n
      · obtain ⟨c, HC, hcell⟩ : ∃ c, Hid (c = f (i + m)) ∧ w.cell? ⟨b, o + (i + m), none⟩ = some (.int .u8 c) := ⟨_, rfl, Hc.out _ hlt⟩
        have HS : Hid (jrun f i (m + 1) = jstep s e d c) := by rw [HC.out]; exact jrun_succ HJ.out
        cases e
        · cases s
          · have hd1 : c = 125 ∨ c = 93 → 1 ≤ d := by
              intro hh
              have hcf := HC.out
              cases m with
              | zero =>
                exfalso
                rw [Nat.add_zero] at hcf
                have h9 := HC0.out
                omega
              | succ m =>
                have hv := jrun_inv Ho.out m _ _ _ HJ.out
                by_cases h34 : f i = 34
                · have := (hv.2.1 h34).1; cases this
                · exact hv.2.2.1 h34
            by_cases e34 : c = 34
            · have HJ' : Hid (jrun f i (m + 1) = some (true, false, d)) := jquote HJ.out HC.out e34
              clear hd1
              subst e34
              go_wp2
              go_round
              case rel => exact ⟨m + 1, d, true, false, rfl, rfl, rfl, by go_num, by omega, by omega, HJ'⟩
              case measure => simp [intOf]; omega
            · by_cases eo : c = 123 ∨ c = 91
              · have HJ' : Hid (jrun f i (m + 1) = some (false, false, d + 1)) := jopen HJ.out HC.out eo
                clear hd1 e34
                rcases eo with rfl | rfl
                all_goals
                  go_wp2
                  go_round
                  case rel => exact ⟨m + 1, d + 1, false, false, rfl, rfl, by go_num, by go_num, by omega, by omega, HJ'⟩
                  case measure => simp [intOf]; omega
              · by_cases ec : c = 125 ∨ c = 93
                · have hd := hd1 ec
                  by_cases e1 : d = 1
                  · have HV : Hid (VEnd f n i ((i + m + 1 : Nat) : Int)) := HFN.out _ (by omega) (jend HJ.out HC.out ec (by omega))
                    clear hd1 e34 eo
                    subst e1
                    rcases ec with rfl | rfl
                    all_goals
                      go_wp2
                      go_ret
                      exact ⟨_, rfl, (by have := HV.out; simpa using this), rfl⟩
                  · have HJ' : Hid (jrun f i (m + 1) = some (false, false, d - 1)) := jclose HJ.out HC.out ec (by omega)
                    have hne : ((d : Int) - 1 == 0) = false := by simp; omega
                    clear hd1 e34 eo
                    rcases ec with rfl | rfl
                    all_goals
                      go_wp2
                      go_round
                      case rel => exact ⟨m + 1, d - 1, false, false, rfl, rfl, by go_num, by go_num, by omega, by omega, HJ'⟩
                      case measure => simp [intOf]; omega
                · have HJ' : Hid (jrun f i (m + 1) = some (false, false, d)) := jother HJ.out HC.out e34 eo ec
                  have e1 : (c == 34) = false := by simp; omega
                  have e2 : (c == 123) = false := by simp; omega
                  have e3 : (c == 91) = false := by simp; omega
                  have e4 : (c == 125) = false := by simp; omega
                  have e5 : (c == 93) = false := by simp; omega
                  clear hd1 e34 eo ec
                  go_wp2
                  go_round
                  case rel => exact ⟨m + 1, d, false, false, rfl, rfl, rfl, by go_num, by omega, by omega, HJ'⟩
                  case measure => simp [intOf]; omega
          · by_cases e92 : c = 92
            · have HJ' : Hid (jrun f i (m + 1) = some (true, true, d)) := by rw [HS.out, e92]; exact rfl
              subst e92
              go_wp2
              go_round
              case rel => exact ⟨m + 1, d, true, true, rfl, rfl, rfl, by go_num, by omega, by omega, HJ'⟩
              case measure => simp [intOf]; omega
            · by_cases e34 : c = 34
              · by_cases e0 : d = 0
                · have HV : Hid (VEnd f n i ((i + m + 1 : Nat) : Int)) := HFN.out _ (by omega) ⟨m, true, false, d, rfl, HJ.out, by rw [← HC.out, e34, e0]; rfl⟩
                  subst e34 e0
                  go_wp2
                  go_ret
                  exact ⟨_, rfl, (by have := HV.out; simpa using this), rfl⟩
                · have HJ' : Hid (jrun f i (m + 1) = some (false, false, d)) := by rw [HS.out, e34]; simp [jstep, e0]; exact True.intro
                  have hne : ((d : Int) == 0) = false := by simp; omega
                  subst e34
                  go_wp2
                  go_round
                  case rel => exact ⟨m + 1, d, false, false, rfl, rfl, rfl, by go_num, by omega, by omega, HJ'⟩
                  case measure => simp [intOf]; omega
              · have HJ' : Hid (jrun f i (m + 1) = some (true, false, d)) := by rw [HS.out]; simp [jstep, e92, e34]; exact True.intro
                have e1 : (c == 34) = false := by simp; omega
                have e2 : (c == 92) = false := by simp; omega
                clear e92 e34
                go_wp2
                go_round
                case rel => exact ⟨m + 1, d, true, false, rfl, rfl, rfl, by go_num, by omega, by omega, HJ'⟩
                case measure => simp [intOf]; omega
        · have HJ' : Hid (jrun f i (m + 1) = some (s, false, d)) := by rw [HS.out]; exact rfl
          go_wp2
          go_round
          case rel => exact ⟨m + 1, d, s, false, rfl, rfl, rfl, by go_num, by omega, by omega, HJ'⟩
          case measure => simp [intOf]; omega
      · have HV : Hid (VEnd f n i (-1)) := HNF.out _ _ HJ.out (by omega)
        go_wp2
        go_ret
        exact ⟨_, rfl, HV.out, rfl⟩

end Go.Proofs.Qxb6630289a
